import PyProof.Rows.All
import Wide.All
import OpenK.AllK
import Wide.FinOn
import PySem.Challenge.RW_ux0024_01

set_option Elab.async false
set_option maxRecDepth 100000
set_option maxHeartbeats 8000000
set_option linter.all false
set_option compiler.extract_closed false

open PySem PySem.W PyProof.Rows
namespace Mine
#guard_msgs (drop all) in
lay_quick_some 30 nothingHere
open_top hd for PySem.Challenge.rw_ux0024_01
example : True := by
  w_top off
  trivial
end Mine

section
open PySem PySem.W PyProof.Rows PySem.Calls PySem.Spec
namespace Mine
/-- the n-th of a list -/
noncomputable def nth {α : Type} : List α → Nat → Option α
  | [], _ => none
  | a :: _, 0 => some a
  | _ :: l, n + 1 => nth l n
/-- what is left behind the first n -/
noncomputable def behind {α : Type} : Nat → List α → List α
  | 0, l => l
  | _ + 1, [] => []
  | n + 1, _ :: l => behind n l
theorem mem_nth {α : Type} {a : α} : ∀ {l : List α} (n : Nat), nth l n = some a → a ∈ l
  | [], n, h => by cases n <;> cases h
  | b :: l, 0, h => by cases h; exact .head _
  | b :: l, n + 1, h => .tail _ (mem_nth (l := l) n h)
theorem sub_behind {α : Type} : ∀ (n : Nat) {l r : List α}, behind n l = r → ∀ p ∈ r, p ∈ l
  | 0, l, r, h => by cases h; exact fun _ hp => hp
  | n + 1, [], r, h => by cases h; exact fun _ hp => hp
  | n + 1, b :: l, r, h => fun p hp => .tail _ (sub_behind n (l := l) h p hp)
theorem mem_past {α : Type} {l t e : List α} {a : α} (n k : Nat) (h : behind n l = t ++ e) (m : nth e k = some a) : a ∈ l := sub_behind n h _ (List.mem_append_right _ (mem_nth k m))
theorem sub_past {α : Type} {l t e r : List α} (n k : Nat) (h : behind n l = t ++ e) (m : behind k e = r) : ∀ p ∈ r, p ∈ l := fun p hp => sub_behind n h _ (List.mem_append_right _ (sub_behind k m p hp))
theorem sub_front {α : Type} {l t e : List α} (n : Nat) (h : behind n l = t ++ e) : ∀ p ∈ t, p ∈ l := fun p hp => sub_behind n h _ (List.mem_append_left _ hp)
theorem sub_nil {α : Type} {l : List α} : ∀ p ∈ ([] : List α), p ∈ l := fun _ hp => absurd hp List.not_mem_nil
theorem sub_cons {α : Type} {a : α} {r l : List α} (h : a ∈ l) (hr : ∀ p ∈ r, p ∈ l) : ∀ p ∈ a :: r, p ∈ l := fun p hp => (List.mem_cons.mp hp).elim (fun e => e ▸ h) (hr p)
theorem sub_app {α : Type} {a r l : List α} (h : ∀ p ∈ a, p ∈ l) (hr : ∀ p ∈ r, p ∈ l) : ∀ p ∈ a ++ r, p ∈ l := fun p hp => (List.mem_append.mp hp).elim (h p) (hr p)
theorem sub_tr {α : Type} {a r l : List α} (h : ∀ p ∈ a, p ∈ r) (hr : ∀ p ∈ r, p ∈ l) : ∀ p ∈ a, p ∈ l := fun p hp => hr p (h p hp)
theorem sub_appl {α : Type} {a r l : List α} (h : ∀ p ∈ r, p ∈ a) : ∀ p ∈ r, p ∈ a ++ l := fun p hp => List.mem_append_left _ (h p hp)
theorem sub_appr {α : Type} {a r l : List α} (h : ∀ p ∈ r, p ∈ l) : ∀ p ∈ r, p ∈ a ++ l := fun p hp => List.mem_append_right _ (h p hp)
theorem sub_self {α : Type} {l : List α} : ∀ p ∈ l, p ∈ l := fun _ hp => hp
theorem sub_except {α β : Type} {l t : List (α × β)} {q : α × β} (h : ∀ p ∈ l, p ∈ q :: t) {p : α × β} (hp : p ∈ l) (e : p.1 ≠ q.1) : p ∈ t := (List.mem_cons.mp (h p hp)).elim (fun x => absurd (congrArg Prod.fst x) e) id
theorem at_eq {α : Type} {a p : α} {l : List α} (e : p = a) (h : a ∈ l) : p ∈ l := e ▸ h
theorem cons_mono {α : Type} {a : α} {l l' : List α} (h : ∀ p ∈ l, p ∈ l') : ∀ p ∈ a :: l, p ∈ a :: l' := fun p hp => (List.mem_cons.mp hp).elim (fun e => e ▸ .head _) (fun q => .tail _ (h p q))
/-- the ten cells of the law's frame: lower, upper, kinds, table, read_words, read_above, words, hidden, hand, above -/
abbrev cells10 (L1 : Addr) (c1 c2 c3 c4 c5 c6 c7 c8 c9 c10 : Obj) (r : List (Addr × Obj)) : List (Addr × Obj) :=
  (L1 + 1 + 1 + 1 + 1 + 1 + 1 + 1 + 1 + 1 + 1, c1) :: (L1 + 1 + 1 + 1 + 1 + 1 + 1 + 1 + 1 + 1, c2) :: (L1 + 1 + 1 + 1 + 1 + 1 + 1 + 1 + 1, c3) :: (L1 + 1 + 1 + 1 + 1 + 1 + 1 + 1, c4) :: (L1 + 1 + 1 + 1 + 1 + 1 + 1, c5) :: (L1 + 1 + 1 + 1 + 1 + 1, c6) :: (L1 + 1 + 1 + 1 + 1, c7) :: (L1 + 1 + 1 + 1, c8) :: (L1 + 1 + 1, c9) :: (L1 + 1, c10) :: r
end Mine
end

open PySem PySem.W PyProof.Rows PySem.Calls PySem.Spec Mine
example : True := by
  k_with_none
  (k_with "mine:r0" => ((refine' code_def ?k1 ?k2 ?k3 ?k4 ?k5 ?kA ?kF ?kK ?k6 ?k7 ?k8 ?k9 ?kB ?_ ?c2 ?c3 ?c4 ?c5; (case kA => exact rfl); (case kF => exact rfl); (case kK => first | assumption | exact rfl); (case k1 => k_asm); (case k2 => k_asm); (case k3 => k_asm); (case k4 => k_asm); (case k5 => k_asm); (case k6 => k_is); (case k7 => k_is); (case k8 => ktr_room); (case k9 => (refine' kp_binds ?kx ?ke; (case kx => k_in); (case ke => exact fun _ => rfl))); (case c5 => decide); (case kB => exact locs rfl); (case c2 => exact rfl); (case c3 => exact rfl); (case c4 => exact rfl); k_whole)))
  (k_with "mine:r1" => ((refine' code_defC ?k1 ?k2 ?k3 ?k4 ?k5 ?kA ?kF ?kK ?k6 ?k7 ?k8 ?k9 ?kB ?kD ?_ ?c2 ?c3 ?c4; (case kA => exact rfl); (case kF => exact rfl); (case kK => first | assumption | exact rfl); (case k1 => k_asm); (case k2 => k_asm); (case k3 => k_asm); (case k4 => k_asm); (case k5 => k_asm); (case k6 => k_is); (case k7 => k_is); (case k8 => ktr_room); (case k9 => (refine' kp_binds ?kx ?ke; (case kx => k_in); (case ke => exact fun _ => rfl))); (case kB => exact rfl); (case kD => decide +kernel); (case c2 => exact rfl); (case c3 => exact rfl); (case c4 => exact rfl); k_whole)))
  (k_with "mine:r2" => ((refine' kla_code ?k1 ?k2 ?k3 ?k4 ?k5 ?kA ?kF ?kK ?k6 ?k7 ?k8 ?k9 ?kB ?_ ?c2 ?c3 ?c4 ?c5; (case kA => exact rfl); (case kF => exact rfl); (case kK => first | assumption | exact rfl); (case k1 => k_asm); (case k2 => k_asm); (case k3 => k_asm); (case k4 => k_asm); (case k5 => k_asm); (case k6 => k_mem); (case k7 => exact codeRec_news (by k_asm) (by k_mem) (by assumption) (by assumption)); (case k8 => ktr_room); (case k9 => exact rfl); (case c5 => decide); (case kB => exact locs rfl); (case c2 => exact rfl); (case c3 => exact rfl); (case c4 => exact rfl); k_whole)))
  (k_with "mine:r3" => ((refine unpackN_ (by assumption) (by assumption) (News.isTup (by assumption) (by first | exact .head _ | k_mem)) (by rfl) (by rfl) (by rfl) ?_; intro _ _ _)))
  (k_with "mine:r4" => ((k_here; (with_reducible show wpAny _ _ (compareOp CmpOp.In (Value.str _ _) (Value.str _ _)) _ _ _); first | refine in_str_t (by decide +kernel) ?_ | refine in_str_f (by decide +kernel) ?_)))
  (k_with "mine:r5" => ((refine' call_cls ?k1 ?k2 ?k3 ?k4 ?k5 ?k6 ?_; (case k1 => k_asm); (case k2 => k_asm); (case k3 => k_asm); (case k4 => k_is); (case k5 => k_is); (case k6 => k_is); k_whole)))
  (k_with "mine:r6" => ((k_here; (with_reducible show wpAny _ _ (subscriptTail _ _ (Value.ref _) (Value.int _ _)) _ _ _); refine Halt.mk ?_)))
  (k_with "mine:r7" => ((k_here; (with_reducible show wpAny _ _ (eval (Expr.Name _ _) (compEnvC _ _ _ _)) _ _ _); refine Halt.mk ?_)))
  (k_with "mine:r8" => ((k_here; (with_reducible show wpAny _ _ (call (Value.builtin "len") [Value.ref _]) _ _ _); refine Halt.mk ?_)))
  (k_with "mine:r9" => ((k_here; (with_reducible show wpAny _ _ (execs (Stmt.Assign [Expr.Tuple _ _ _] _ _ :: _) _) _ _ _); refine Halt.mk ?_)))
  (k_with "mine:r10" => ((k_here; (with_reducible show wpAny _ _ (execs (Stmt.If (Expr.Compare (Expr.Subscript _ _ _) _ _ _) _ _ _ :: _) _) _ _ _); refine Halt.mk ?_)))
  (k_with "mine:r11" => ((k_here; (with_reducible show wpAny _ _ (execs (Stmt.Assign [Expr.Name _ _] (Expr.Call (Expr.Name _ _) _ _ _) _ :: _) _) _ _ _); refine Halt.mk ?_)))
  (k_with "mine:r12" => ((k_here; (with_reducible show wpAny _ _ (execs (Stmt.For _ _ _ _ _ :: _) _) _ _ _); refine Halt.mk ?_)))
  (k_with "mine:nth" => (first | exact Mine.mem_nth 0 rfl | exact Mine.mem_nth 1 rfl | exact Mine.mem_nth 2 rfl | exact Mine.mem_nth 3 rfl | exact Mine.mem_nth 4 rfl | exact Mine.mem_nth 5 rfl | exact Mine.mem_nth 6 rfl | exact Mine.mem_nth 7 rfl | exact Mine.mem_nth 8 rfl | exact Mine.mem_nth 9 rfl | exact Mine.mem_nth 10 rfl | exact Mine.mem_nth 11 rfl | exact Mine.mem_nth 12 rfl | exact Mine.mem_nth 13 rfl | exact Mine.mem_nth 14 rfl | exact Mine.mem_nth 15 rfl | exact Mine.mem_nth 16 rfl | exact Mine.mem_nth 17 rfl | exact Mine.mem_nth 18 rfl | exact Mine.mem_nth 19 rfl | exact Mine.mem_nth 20 rfl | exact Mine.mem_nth 21 rfl | exact Mine.mem_nth 22 rfl | exact Mine.mem_nth 23 rfl))
  (k_with "mine:beh" => (first | exact Mine.sub_behind 0 rfl | exact Mine.sub_behind 1 rfl | exact Mine.sub_behind 2 rfl | exact Mine.sub_behind 3 rfl | exact Mine.sub_behind 4 rfl | exact Mine.sub_behind 5 rfl | exact Mine.sub_behind 6 rfl | exact Mine.sub_behind 7 rfl | exact Mine.sub_behind 8 rfl | exact Mine.sub_behind 9 rfl | exact Mine.sub_behind 10 rfl | exact Mine.sub_behind 11 rfl | exact Mine.sub_behind 12 rfl | exact Mine.sub_behind 13 rfl | exact Mine.sub_behind 14 rfl | exact Mine.sub_behind 15 rfl | exact Mine.sub_behind 16 rfl | exact Mine.sub_behind 17 rfl | exact Mine.sub_behind 18 rfl | exact Mine.sub_behind 19 rfl | exact Mine.sub_behind 20 rfl | exact Mine.sub_behind 21 rfl | exact Mine.sub_behind 22 rfl | exact Mine.sub_behind 23 rfl))
  (k_with "mine:past" => (first | exact Mine.mem_past 0 0 rfl rfl | exact Mine.mem_past 0 1 rfl rfl | exact Mine.mem_past 0 2 rfl rfl | exact Mine.mem_past 0 3 rfl rfl | exact Mine.mem_past 0 4 rfl rfl | exact Mine.mem_past 0 5 rfl rfl | exact Mine.mem_past 0 6 rfl rfl | exact Mine.mem_past 0 7 rfl rfl | exact Mine.mem_past 0 8 rfl rfl | exact Mine.mem_past 0 9 rfl rfl | exact Mine.mem_past 0 10 rfl rfl | exact Mine.mem_past 0 11 rfl rfl | exact Mine.mem_past 0 12 rfl rfl | exact Mine.mem_past 0 13 rfl rfl | exact Mine.mem_past 0 14 rfl rfl | exact Mine.mem_past 0 15 rfl rfl | exact Mine.mem_past 0 16 rfl rfl | exact Mine.mem_past 0 17 rfl rfl | exact Mine.mem_past 1 0 rfl rfl | exact Mine.mem_past 1 1 rfl rfl | exact Mine.mem_past 1 2 rfl rfl | exact Mine.mem_past 1 3 rfl rfl | exact Mine.mem_past 1 4 rfl rfl | exact Mine.mem_past 1 5 rfl rfl | exact Mine.mem_past 1 6 rfl rfl | exact Mine.mem_past 1 7 rfl rfl | exact Mine.mem_past 1 8 rfl rfl | exact Mine.mem_past 1 9 rfl rfl | exact Mine.mem_past 1 10 rfl rfl | exact Mine.mem_past 1 11 rfl rfl | exact Mine.mem_past 1 12 rfl rfl | exact Mine.mem_past 1 13 rfl rfl | exact Mine.mem_past 1 14 rfl rfl | exact Mine.mem_past 1 15 rfl rfl | exact Mine.mem_past 1 16 rfl rfl | exact Mine.mem_past 1 17 rfl rfl | exact Mine.mem_past 2 0 rfl rfl | exact Mine.mem_past 2 1 rfl rfl | exact Mine.mem_past 2 2 rfl rfl | exact Mine.mem_past 2 3 rfl rfl | exact Mine.mem_past 2 4 rfl rfl | exact Mine.mem_past 2 5 rfl rfl | exact Mine.mem_past 2 6 rfl rfl | exact Mine.mem_past 2 7 rfl rfl | exact Mine.mem_past 2 8 rfl rfl | exact Mine.mem_past 2 9 rfl rfl | exact Mine.mem_past 2 10 rfl rfl | exact Mine.mem_past 2 11 rfl rfl | exact Mine.mem_past 2 12 rfl rfl | exact Mine.mem_past 2 13 rfl rfl | exact Mine.mem_past 2 14 rfl rfl | exact Mine.mem_past 2 15 rfl rfl | exact Mine.mem_past 2 16 rfl rfl | exact Mine.mem_past 2 17 rfl rfl | exact Mine.mem_past 3 0 rfl rfl | exact Mine.mem_past 3 1 rfl rfl | exact Mine.mem_past 3 2 rfl rfl | exact Mine.mem_past 3 3 rfl rfl | exact Mine.mem_past 3 4 rfl rfl | exact Mine.mem_past 3 5 rfl rfl | exact Mine.mem_past 3 6 rfl rfl | exact Mine.mem_past 3 7 rfl rfl | exact Mine.mem_past 3 8 rfl rfl | exact Mine.mem_past 3 9 rfl rfl | exact Mine.mem_past 3 10 rfl rfl | exact Mine.mem_past 3 11 rfl rfl | exact Mine.mem_past 3 12 rfl rfl | exact Mine.mem_past 3 13 rfl rfl | exact Mine.mem_past 3 14 rfl rfl | exact Mine.mem_past 3 15 rfl rfl | exact Mine.mem_past 3 16 rfl rfl | exact Mine.mem_past 3 17 rfl rfl))
  (k_with "mine:front" => (first | exact Mine.sub_front 0 rfl | exact Mine.sub_front 1 rfl | exact Mine.sub_front 2 rfl | exact Mine.sub_front 3 rfl | exact Mine.sub_front 4 rfl | exact Mine.sub_front 5 rfl | exact Mine.sub_front 6 rfl | exact Mine.sub_front 7 rfl | exact Mine.sub_front 8 rfl | exact Mine.sub_front 9 rfl | exact Mine.sub_front 10 rfl | exact Mine.sub_front 11 rfl | exact Mine.sub_front 12 rfl | exact Mine.sub_front 13 rfl | exact Mine.sub_front 14 rfl | exact Mine.sub_front 15 rfl | exact Mine.sub_front 16 rfl | exact Mine.sub_front 17 rfl | exact Mine.sub_front 18 rfl | exact Mine.sub_front 19 rfl | exact Mine.sub_front 20 rfl | exact Mine.sub_front 21 rfl | exact Mine.sub_front 22 rfl | exact Mine.sub_front 23 rfl | exact Mine.sub_front 24 rfl | exact Mine.sub_front 25 rfl | exact Mine.sub_front 26 rfl | exact Mine.sub_front 27 rfl))
  (k_with "mine:pastb" => (first | exact Mine.sub_past 4 0 rfl rfl | exact Mine.sub_past 5 0 rfl rfl | exact Mine.sub_past 6 0 rfl rfl | exact Mine.sub_past 7 0 rfl rfl | exact Mine.sub_past 8 0 rfl rfl | exact Mine.sub_past 9 0 rfl rfl | exact Mine.sub_past 10 0 rfl rfl | exact Mine.sub_past 11 0 rfl rfl | exact Mine.sub_past 12 0 rfl rfl | exact Mine.sub_past 13 0 rfl rfl | exact Mine.sub_past 14 0 rfl rfl | exact Mine.sub_past 15 0 rfl rfl | exact Mine.sub_past 16 0 rfl rfl | exact Mine.sub_past 17 0 rfl rfl | exact Mine.sub_past 18 0 rfl rfl | exact Mine.sub_past 19 0 rfl rfl | exact Mine.sub_past 20 0 rfl rfl | exact Mine.sub_past 21 0 rfl rfl | exact Mine.sub_past 22 0 rfl rfl | exact Mine.sub_past 23 0 rfl rfl | exact Mine.sub_past 24 0 rfl rfl | exact Mine.sub_past 25 0 rfl rfl | exact Mine.sub_past 26 0 rfl rfl | exact Mine.sub_past 27 0 rfl rfl | exact Mine.sub_past 0 0 rfl rfl | exact Mine.sub_past 0 1 rfl rfl | exact Mine.sub_past 0 2 rfl rfl | exact Mine.sub_past 0 3 rfl rfl | exact Mine.sub_past 0 4 rfl rfl | exact Mine.sub_past 0 5 rfl rfl | exact Mine.sub_past 0 6 rfl rfl | exact Mine.sub_past 0 7 rfl rfl | exact Mine.sub_past 0 8 rfl rfl | exact Mine.sub_past 0 9 rfl rfl | exact Mine.sub_past 0 10 rfl rfl | exact Mine.sub_past 0 11 rfl rfl | exact Mine.sub_past 0 12 rfl rfl | exact Mine.sub_past 0 13 rfl rfl | exact Mine.sub_past 0 14 rfl rfl | exact Mine.sub_past 0 15 rfl rfl | exact Mine.sub_past 0 16 rfl rfl | exact Mine.sub_past 0 17 rfl rfl | exact Mine.sub_past 1 0 rfl rfl | exact Mine.sub_past 1 1 rfl rfl | exact Mine.sub_past 1 2 rfl rfl | exact Mine.sub_past 1 3 rfl rfl | exact Mine.sub_past 1 4 rfl rfl | exact Mine.sub_past 1 5 rfl rfl | exact Mine.sub_past 1 6 rfl rfl | exact Mine.sub_past 1 7 rfl rfl | exact Mine.sub_past 1 8 rfl rfl | exact Mine.sub_past 1 9 rfl rfl | exact Mine.sub_past 1 10 rfl rfl | exact Mine.sub_past 1 11 rfl rfl | exact Mine.sub_past 1 12 rfl rfl | exact Mine.sub_past 1 13 rfl rfl | exact Mine.sub_past 1 14 rfl rfl | exact Mine.sub_past 1 15 rfl rfl | exact Mine.sub_past 1 16 rfl rfl | exact Mine.sub_past 1 17 rfl rfl | exact Mine.sub_past 2 0 rfl rfl | exact Mine.sub_past 2 1 rfl rfl | exact Mine.sub_past 2 2 rfl rfl | exact Mine.sub_past 2 3 rfl rfl | exact Mine.sub_past 2 4 rfl rfl | exact Mine.sub_past 2 5 rfl rfl | exact Mine.sub_past 2 6 rfl rfl | exact Mine.sub_past 2 7 rfl rfl | exact Mine.sub_past 2 8 rfl rfl | exact Mine.sub_past 2 9 rfl rfl | exact Mine.sub_past 2 10 rfl rfl | exact Mine.sub_past 2 11 rfl rfl | exact Mine.sub_past 2 12 rfl rfl | exact Mine.sub_past 2 13 rfl rfl | exact Mine.sub_past 2 14 rfl rfl | exact Mine.sub_past 2 15 rfl rfl | exact Mine.sub_past 2 16 rfl rfl | exact Mine.sub_past 2 17 rfl rfl | exact Mine.sub_past 3 0 rfl rfl | exact Mine.sub_past 3 1 rfl rfl | exact Mine.sub_past 3 2 rfl rfl | exact Mine.sub_past 3 3 rfl rfl | exact Mine.sub_past 3 4 rfl rfl | exact Mine.sub_past 3 5 rfl rfl | exact Mine.sub_past 3 6 rfl rfl | exact Mine.sub_past 3 7 rfl rfl | exact Mine.sub_past 3 8 rfl rfl | exact Mine.sub_past 3 9 rfl rfl | exact Mine.sub_past 3 10 rfl rfl | exact Mine.sub_past 3 11 rfl rfl | exact Mine.sub_past 3 12 rfl rfl | exact Mine.sub_past 3 13 rfl rfl | exact Mine.sub_past 3 14 rfl rfl | exact Mine.sub_past 3 15 rfl rfl | exact Mine.sub_past 3 16 rfl rfl | exact Mine.sub_past 3 17 rfl rfl))
  (k_with "mine:sub" => (((try dsimp only [Mine.cells10]); repeat' (first | with_reducible exact Mine.sub_nil | with_reducible refine Mine.sub_cons ?_ ?_ | with_reducible refine Mine.sub_app ?_ ?_ | walk_at "mine:nth" | walk_at "mine:beh" | walk_at "mine:past" | walk_at "mine:front" | walk_at "mine:pastb"))))
  (k_with "mine:z" => (dsimp (config := { beta := false, eta := false, iota := false, proj := false, zeta := true }) only))
  (k_with "mine:tup" => ((refine item_tupleT (News.isTup (by assumption) (by k_mem)) (by decide) (by decide) rfl rfl ?_ (by with_unfolding_all rfl))))
  (k_with "mine:cmem" => (first | with_reducible exact List.mem_cons_self | with_reducible exact List.Mem.head _ | with_reducible exact List.Mem.tail _ (List.Mem.head _) | (repeat (first | with_reducible exact List.Mem.head _ | refine List.Mem.tail _ ?_))))
  (k_with "mine:nmo" => (refine LCgL.ld_own (by assumption) (by walk_at "mine:cmem") (by assumption) (by assumption) ?_))
  (k_with "mine:nmg" => (k_dflt (refine LCgL.ld_global (by k_asm) (by k_asm) (by k_asm) (by k_is) ?_)))
  trivial
local macro_rules | `(tactic| walk_at "mine:own_enter") => `(tactic| (walk_at "mine:r0"; intro g' L' h' FG' F' N' B' X' T'; (try dsimp only); (try k_lift B'); (try k_fold)))
local macro_rules | `(tactic| walk_at "mine:own_enterC") => `(tactic| (walk_at "mine:r1"; intro g' L' h' tk' cells' FG' F' N' Y' B' X' T' l1; (try k_lt l1); k_cells Y'; (try simp only [List.cons_append, List.nil_append] at N'); (try dsimp only); (try k_lift B'); (try k_fold)))
local macro_rules | `(tactic| walk_at "mine:own_enterL") => `(tactic| (walk_at "mine:r2"; intro g' L' h' FG' F' N' B' X' T'; (try dsimp only); (try k_lift B'); (try k_fold)))
local macro_rules | `(tactic| walk_at "mine:unpk") => `(tactic| walk_at "mine:r3")
local macro_rules | `(tactic| walk_at "mine:nmc") => `(tactic| (refine' lcf_cell ?N ?c ?m ?d ?_ ?a ?b; (case a => rfl); (case b => rfl); (case N => assumption); (case c => rfl); (case m => walk_at "mine:cmem"); (case d => assumption); k_whole))

section
open PySem PySem.W PyProof.Rows PySem.Calls PySem.Spec
namespace Mine
/-- the one that breaks it, if any does -/
noncomputable def pickK {α : Type} (o : Nonempty α) (P : α → Prop) : α := @Classical.epsilon α o (fun k => ¬ P k)
theorem pick_up {α : Type} (o : Nonempty α) (P : α → Prop) (h : P (pickK o P)) (a : α) : P a :=
  Classical.byContradiction fun n => Classical.epsilon_spec_aux o (fun k => ¬ P k) ⟨a, n⟩ h
@[irreducible] noncomputable def pick1 {α0 : Type} (o : Nonempty (α0)) (P : α0 → Prop) : α0 := pickK o (fun k => P k)
theorem pk1 {α0 : Type} [o : Nonempty (α0)] {P : α0 → Prop} (h : P ((pick1 o P))) (x0 : α0) : P x0 := by
  have e := pick_up o (fun k => P k) (by unfold pick1 at h; exact h) (x0)
  exact e
@[irreducible] noncomputable def pick2 {α0 α1 : Type} (o : Nonempty (α0 × α1)) (P : α0 → α1 → Prop) : α0 × α1 := pickK o (fun k => P k.1 k.2)
theorem pk2 {α0 α1 : Type} [o : Nonempty (α0 × α1)] {P : α0 → α1 → Prop} (h : P ((pick2 o P).1) ((pick2 o P).2)) (x0 : α0) (x1 : α1) : P x0 x1 := by
  have e := pick_up o (fun k => P k.1 k.2) (by unfold pick2 at h; exact h) (x0, x1)
  exact e
@[irreducible] noncomputable def pick3 {α0 α1 α2 : Type} (o : Nonempty (α0 × α1 × α2)) (P : α0 → α1 → α2 → Prop) : α0 × α1 × α2 := pickK o (fun k => P k.1 k.2.1 k.2.2)
theorem pk3 {α0 α1 α2 : Type} [o : Nonempty (α0 × α1 × α2)] {P : α0 → α1 → α2 → Prop} (h : P ((pick3 o P).1) ((pick3 o P).2.1) ((pick3 o P).2.2)) (x0 : α0) (x1 : α1) (x2 : α2) : P x0 x1 x2 := by
  have e := pick_up o (fun k => P k.1 k.2.1 k.2.2) (by unfold pick3 at h; exact h) (x0, x1, x2)
  exact e
@[irreducible] noncomputable def pick4 {α0 α1 α2 α3 : Type} (o : Nonempty (α0 × α1 × α2 × α3)) (P : α0 → α1 → α2 → α3 → Prop) : α0 × α1 × α2 × α3 := pickK o (fun k => P k.1 k.2.1 k.2.2.1 k.2.2.2)
theorem pk4 {α0 α1 α2 α3 : Type} [o : Nonempty (α0 × α1 × α2 × α3)] {P : α0 → α1 → α2 → α3 → Prop} (h : P ((pick4 o P).1) ((pick4 o P).2.1) ((pick4 o P).2.2.1) ((pick4 o P).2.2.2)) (x0 : α0) (x1 : α1) (x2 : α2) (x3 : α3) : P x0 x1 x2 x3 := by
  have e := pick_up o (fun k => P k.1 k.2.1 k.2.2.1 k.2.2.2) (by unfold pick4 at h; exact h) (x0, x1, x2, x3)
  exact e
@[irreducible] noncomputable def pick5 {α0 α1 α2 α3 α4 : Type} (o : Nonempty (α0 × α1 × α2 × α3 × α4)) (P : α0 → α1 → α2 → α3 → α4 → Prop) : α0 × α1 × α2 × α3 × α4 := pickK o (fun k => P k.1 k.2.1 k.2.2.1 k.2.2.2.1 k.2.2.2.2)
theorem pk5 {α0 α1 α2 α3 α4 : Type} [o : Nonempty (α0 × α1 × α2 × α3 × α4)] {P : α0 → α1 → α2 → α3 → α4 → Prop} (h : P ((pick5 o P).1) ((pick5 o P).2.1) ((pick5 o P).2.2.1) ((pick5 o P).2.2.2.1) ((pick5 o P).2.2.2.2)) (x0 : α0) (x1 : α1) (x2 : α2) (x3 : α3) (x4 : α4) : P x0 x1 x2 x3 x4 := by
  have e := pick_up o (fun k => P k.1 k.2.1 k.2.2.1 k.2.2.2.1 k.2.2.2.2) (by unfold pick5 at h; exact h) (x0, x1, x2, x3, x4)
  exact e
@[irreducible] noncomputable def pick6 {α0 α1 α2 α3 α4 α5 : Type} (o : Nonempty (α0 × α1 × α2 × α3 × α4 × α5)) (P : α0 → α1 → α2 → α3 → α4 → α5 → Prop) : α0 × α1 × α2 × α3 × α4 × α5 := pickK o (fun k => P k.1 k.2.1 k.2.2.1 k.2.2.2.1 k.2.2.2.2.1 k.2.2.2.2.2)
theorem pk6 {α0 α1 α2 α3 α4 α5 : Type} [o : Nonempty (α0 × α1 × α2 × α3 × α4 × α5)] {P : α0 → α1 → α2 → α3 → α4 → α5 → Prop} (h : P ((pick6 o P).1) ((pick6 o P).2.1) ((pick6 o P).2.2.1) ((pick6 o P).2.2.2.1) ((pick6 o P).2.2.2.2.1) ((pick6 o P).2.2.2.2.2)) (x0 : α0) (x1 : α1) (x2 : α2) (x3 : α3) (x4 : α4) (x5 : α5) : P x0 x1 x2 x3 x4 x5 := by
  have e := pick_up o (fun k => P k.1 k.2.1 k.2.2.1 k.2.2.2.1 k.2.2.2.2.1 k.2.2.2.2.2) (by unfold pick6 at h; exact h) (x0, x1, x2, x3, x4, x5)
  exact e
@[irreducible] noncomputable def pick7 {α0 α1 α2 α3 α4 α5 α6 : Type} (o : Nonempty (α0 × α1 × α2 × α3 × α4 × α5 × α6)) (P : α0 → α1 → α2 → α3 → α4 → α5 → α6 → Prop) : α0 × α1 × α2 × α3 × α4 × α5 × α6 := pickK o (fun k => P k.1 k.2.1 k.2.2.1 k.2.2.2.1 k.2.2.2.2.1 k.2.2.2.2.2.1 k.2.2.2.2.2.2)
theorem pk7 {α0 α1 α2 α3 α4 α5 α6 : Type} [o : Nonempty (α0 × α1 × α2 × α3 × α4 × α5 × α6)] {P : α0 → α1 → α2 → α3 → α4 → α5 → α6 → Prop} (h : P ((pick7 o P).1) ((pick7 o P).2.1) ((pick7 o P).2.2.1) ((pick7 o P).2.2.2.1) ((pick7 o P).2.2.2.2.1) ((pick7 o P).2.2.2.2.2.1) ((pick7 o P).2.2.2.2.2.2)) (x0 : α0) (x1 : α1) (x2 : α2) (x3 : α3) (x4 : α4) (x5 : α5) (x6 : α6) : P x0 x1 x2 x3 x4 x5 x6 := by
  have e := pick_up o (fun k => P k.1 k.2.1 k.2.2.1 k.2.2.2.1 k.2.2.2.2.1 k.2.2.2.2.2.1 k.2.2.2.2.2.2) (by unfold pick7 at h; exact h) (x0, x1, x2, x3, x4, x5, x6)
  exact e
@[irreducible] noncomputable def pick8 {α0 α1 α2 α3 α4 α5 α6 α7 : Type} (o : Nonempty (α0 × α1 × α2 × α3 × α4 × α5 × α6 × α7)) (P : α0 → α1 → α2 → α3 → α4 → α5 → α6 → α7 → Prop) : α0 × α1 × α2 × α3 × α4 × α5 × α6 × α7 := pickK o (fun k => P k.1 k.2.1 k.2.2.1 k.2.2.2.1 k.2.2.2.2.1 k.2.2.2.2.2.1 k.2.2.2.2.2.2.1 k.2.2.2.2.2.2.2)
theorem pk8 {α0 α1 α2 α3 α4 α5 α6 α7 : Type} [o : Nonempty (α0 × α1 × α2 × α3 × α4 × α5 × α6 × α7)] {P : α0 → α1 → α2 → α3 → α4 → α5 → α6 → α7 → Prop} (h : P ((pick8 o P).1) ((pick8 o P).2.1) ((pick8 o P).2.2.1) ((pick8 o P).2.2.2.1) ((pick8 o P).2.2.2.2.1) ((pick8 o P).2.2.2.2.2.1) ((pick8 o P).2.2.2.2.2.2.1) ((pick8 o P).2.2.2.2.2.2.2)) (x0 : α0) (x1 : α1) (x2 : α2) (x3 : α3) (x4 : α4) (x5 : α5) (x6 : α6) (x7 : α7) : P x0 x1 x2 x3 x4 x5 x6 x7 := by
  have e := pick_up o (fun k => P k.1 k.2.1 k.2.2.1 k.2.2.2.1 k.2.2.2.2.1 k.2.2.2.2.2.1 k.2.2.2.2.2.2.1 k.2.2.2.2.2.2.2) (by unfold pick8 at h; exact h) (x0, x1, x2, x3, x4, x5, x6, x7)
  exact e
@[irreducible] noncomputable def pick9 {α0 α1 α2 α3 α4 α5 α6 α7 α8 : Type} (o : Nonempty (α0 × α1 × α2 × α3 × α4 × α5 × α6 × α7 × α8)) (P : α0 → α1 → α2 → α3 → α4 → α5 → α6 → α7 → α8 → Prop) : α0 × α1 × α2 × α3 × α4 × α5 × α6 × α7 × α8 := pickK o (fun k => P k.1 k.2.1 k.2.2.1 k.2.2.2.1 k.2.2.2.2.1 k.2.2.2.2.2.1 k.2.2.2.2.2.2.1 k.2.2.2.2.2.2.2.1 k.2.2.2.2.2.2.2.2)
theorem pk9 {α0 α1 α2 α3 α4 α5 α6 α7 α8 : Type} [o : Nonempty (α0 × α1 × α2 × α3 × α4 × α5 × α6 × α7 × α8)] {P : α0 → α1 → α2 → α3 → α4 → α5 → α6 → α7 → α8 → Prop} (h : P ((pick9 o P).1) ((pick9 o P).2.1) ((pick9 o P).2.2.1) ((pick9 o P).2.2.2.1) ((pick9 o P).2.2.2.2.1) ((pick9 o P).2.2.2.2.2.1) ((pick9 o P).2.2.2.2.2.2.1) ((pick9 o P).2.2.2.2.2.2.2.1) ((pick9 o P).2.2.2.2.2.2.2.2)) (x0 : α0) (x1 : α1) (x2 : α2) (x3 : α3) (x4 : α4) (x5 : α5) (x6 : α6) (x7 : α7) (x8 : α8) : P x0 x1 x2 x3 x4 x5 x6 x7 x8 := by
  have e := pick_up o (fun k => P k.1 k.2.1 k.2.2.1 k.2.2.2.1 k.2.2.2.2.1 k.2.2.2.2.2.1 k.2.2.2.2.2.2.1 k.2.2.2.2.2.2.2.1 k.2.2.2.2.2.2.2.2) (by unfold pick9 at h; exact h) (x0, x1, x2, x3, x4, x5, x6, x7, x8)
  exact e
@[irreducible] noncomputable def pick10 {α0 α1 α2 α3 α4 α5 α6 α7 α8 α9 : Type} (o : Nonempty (α0 × α1 × α2 × α3 × α4 × α5 × α6 × α7 × α8 × α9)) (P : α0 → α1 → α2 → α3 → α4 → α5 → α6 → α7 → α8 → α9 → Prop) : α0 × α1 × α2 × α3 × α4 × α5 × α6 × α7 × α8 × α9 := pickK o (fun k => P k.1 k.2.1 k.2.2.1 k.2.2.2.1 k.2.2.2.2.1 k.2.2.2.2.2.1 k.2.2.2.2.2.2.1 k.2.2.2.2.2.2.2.1 k.2.2.2.2.2.2.2.2.1 k.2.2.2.2.2.2.2.2.2)
theorem pk10 {α0 α1 α2 α3 α4 α5 α6 α7 α8 α9 : Type} [o : Nonempty (α0 × α1 × α2 × α3 × α4 × α5 × α6 × α7 × α8 × α9)] {P : α0 → α1 → α2 → α3 → α4 → α5 → α6 → α7 → α8 → α9 → Prop} (h : P ((pick10 o P).1) ((pick10 o P).2.1) ((pick10 o P).2.2.1) ((pick10 o P).2.2.2.1) ((pick10 o P).2.2.2.2.1) ((pick10 o P).2.2.2.2.2.1) ((pick10 o P).2.2.2.2.2.2.1) ((pick10 o P).2.2.2.2.2.2.2.1) ((pick10 o P).2.2.2.2.2.2.2.2.1) ((pick10 o P).2.2.2.2.2.2.2.2.2)) (x0 : α0) (x1 : α1) (x2 : α2) (x3 : α3) (x4 : α4) (x5 : α5) (x6 : α6) (x7 : α7) (x8 : α8) (x9 : α9) : P x0 x1 x2 x3 x4 x5 x6 x7 x8 x9 := by
  have e := pick_up o (fun k => P k.1 k.2.1 k.2.2.1 k.2.2.2.1 k.2.2.2.2.1 k.2.2.2.2.2.1 k.2.2.2.2.2.2.1 k.2.2.2.2.2.2.2.1 k.2.2.2.2.2.2.2.2.1 k.2.2.2.2.2.2.2.2.2) (by unfold pick10 at h; exact h) (x0, x1, x2, x3, x4, x5, x6, x7, x8, x9)
  exact e
@[irreducible] noncomputable def pick11 {α0 α1 α2 α3 α4 α5 α6 α7 α8 α9 α10 : Type} (o : Nonempty (α0 × α1 × α2 × α3 × α4 × α5 × α6 × α7 × α8 × α9 × α10)) (P : α0 → α1 → α2 → α3 → α4 → α5 → α6 → α7 → α8 → α9 → α10 → Prop) : α0 × α1 × α2 × α3 × α4 × α5 × α6 × α7 × α8 × α9 × α10 := pickK o (fun k => P k.1 k.2.1 k.2.2.1 k.2.2.2.1 k.2.2.2.2.1 k.2.2.2.2.2.1 k.2.2.2.2.2.2.1 k.2.2.2.2.2.2.2.1 k.2.2.2.2.2.2.2.2.1 k.2.2.2.2.2.2.2.2.2.1 k.2.2.2.2.2.2.2.2.2.2)
theorem pk11 {α0 α1 α2 α3 α4 α5 α6 α7 α8 α9 α10 : Type} [o : Nonempty (α0 × α1 × α2 × α3 × α4 × α5 × α6 × α7 × α8 × α9 × α10)] {P : α0 → α1 → α2 → α3 → α4 → α5 → α6 → α7 → α8 → α9 → α10 → Prop} (h : P ((pick11 o P).1) ((pick11 o P).2.1) ((pick11 o P).2.2.1) ((pick11 o P).2.2.2.1) ((pick11 o P).2.2.2.2.1) ((pick11 o P).2.2.2.2.2.1) ((pick11 o P).2.2.2.2.2.2.1) ((pick11 o P).2.2.2.2.2.2.2.1) ((pick11 o P).2.2.2.2.2.2.2.2.1) ((pick11 o P).2.2.2.2.2.2.2.2.2.1) ((pick11 o P).2.2.2.2.2.2.2.2.2.2)) (x0 : α0) (x1 : α1) (x2 : α2) (x3 : α3) (x4 : α4) (x5 : α5) (x6 : α6) (x7 : α7) (x8 : α8) (x9 : α9) (x10 : α10) : P x0 x1 x2 x3 x4 x5 x6 x7 x8 x9 x10 := by
  have e := pick_up o (fun k => P k.1 k.2.1 k.2.2.1 k.2.2.2.1 k.2.2.2.2.1 k.2.2.2.2.2.1 k.2.2.2.2.2.2.1 k.2.2.2.2.2.2.2.1 k.2.2.2.2.2.2.2.2.1 k.2.2.2.2.2.2.2.2.2.1 k.2.2.2.2.2.2.2.2.2.2) (by unfold pick11 at h; exact h) (x0, x1, x2, x3, x4, x5, x6, x7, x8, x9, x10)
  exact e
@[irreducible] noncomputable def pick12 {α0 α1 α2 α3 α4 α5 α6 α7 α8 α9 α10 α11 : Type} (o : Nonempty (α0 × α1 × α2 × α3 × α4 × α5 × α6 × α7 × α8 × α9 × α10 × α11)) (P : α0 → α1 → α2 → α3 → α4 → α5 → α6 → α7 → α8 → α9 → α10 → α11 → Prop) : α0 × α1 × α2 × α3 × α4 × α5 × α6 × α7 × α8 × α9 × α10 × α11 := pickK o (fun k => P k.1 k.2.1 k.2.2.1 k.2.2.2.1 k.2.2.2.2.1 k.2.2.2.2.2.1 k.2.2.2.2.2.2.1 k.2.2.2.2.2.2.2.1 k.2.2.2.2.2.2.2.2.1 k.2.2.2.2.2.2.2.2.2.1 k.2.2.2.2.2.2.2.2.2.2.1 k.2.2.2.2.2.2.2.2.2.2.2)
theorem pk12 {α0 α1 α2 α3 α4 α5 α6 α7 α8 α9 α10 α11 : Type} [o : Nonempty (α0 × α1 × α2 × α3 × α4 × α5 × α6 × α7 × α8 × α9 × α10 × α11)] {P : α0 → α1 → α2 → α3 → α4 → α5 → α6 → α7 → α8 → α9 → α10 → α11 → Prop} (h : P ((pick12 o P).1) ((pick12 o P).2.1) ((pick12 o P).2.2.1) ((pick12 o P).2.2.2.1) ((pick12 o P).2.2.2.2.1) ((pick12 o P).2.2.2.2.2.1) ((pick12 o P).2.2.2.2.2.2.1) ((pick12 o P).2.2.2.2.2.2.2.1) ((pick12 o P).2.2.2.2.2.2.2.2.1) ((pick12 o P).2.2.2.2.2.2.2.2.2.1) ((pick12 o P).2.2.2.2.2.2.2.2.2.2.1) ((pick12 o P).2.2.2.2.2.2.2.2.2.2.2)) (x0 : α0) (x1 : α1) (x2 : α2) (x3 : α3) (x4 : α4) (x5 : α5) (x6 : α6) (x7 : α7) (x8 : α8) (x9 : α9) (x10 : α10) (x11 : α11) : P x0 x1 x2 x3 x4 x5 x6 x7 x8 x9 x10 x11 := by
  have e := pick_up o (fun k => P k.1 k.2.1 k.2.2.1 k.2.2.2.1 k.2.2.2.2.1 k.2.2.2.2.2.1 k.2.2.2.2.2.2.1 k.2.2.2.2.2.2.2.1 k.2.2.2.2.2.2.2.2.1 k.2.2.2.2.2.2.2.2.2.1 k.2.2.2.2.2.2.2.2.2.2.1 k.2.2.2.2.2.2.2.2.2.2.2) (by unfold pick12 at h; exact h) (x0, x1, x2, x3, x4, x5, x6, x7, x8, x9, x10, x11)
  exact e
end Mine
end

section
open PySem PySem.W PyProof.Rows PySem.Calls PySem.Spec
namespace Mine
theorem om0 {v0 : Nat} (h0 : 217 < (v0 + 1)) : 217 ≠ (v0 + 10) := by first | lia | omega
theorem om1 {v0 : Nat}  : (v0 + 9) ≠ (v0 + 10) := by first | exact Nat.ne_of_lt (Nat.add_lt_add_left (by decide) _) | omega
theorem om2 {v0 : Nat}  : (v0 + 8) ≠ (v0 + 10) := by first | exact Nat.ne_of_lt (Nat.add_lt_add_left (by decide) _) | omega
theorem om3 {v0 : Nat}  : (v0 + 7) ≠ (v0 + 10) := by first | exact Nat.ne_of_lt (Nat.add_lt_add_left (by decide) _) | omega
theorem om4 {v0 : Nat}  : (v0 + 4) ≠ (v0 + 10) := by first | exact Nat.ne_of_lt (Nat.add_lt_add_left (by decide) _) | omega
theorem om5 {v0 : Nat}  : (v0 + 1) ≠ (v0 + 10) := by first | exact Nat.ne_of_lt (Nat.add_lt_add_left (by decide) _) | omega
theorem om6 {v0 v1 : Nat} (h0 : (v0 < (v1 + 1)) ∨ ((v1 + 10) < v0)) : v0 ≠ (v1 + 10) := by first | lia | omega
theorem om7 {v0 v1 : Nat} (h0 : v0 = 4) (h1 : v1 < 4) : v1 < v0 := by first | (subst h0; exact h1) | omega
theorem om8 {v0 : Nat} (h0 : v0 = 4) : v0 ≤ 100 := by first | exact Nat.le_trans (Nat.le_of_eq h0) (by decide) | omega
theorem om9 {v0 v1 : Nat} (h0 : v0 ≤ 6) (h1 : v1 ≤ 6) : (v0 + v1) ≤ 16777216 := by first | lia | omega
theorem om10 {v0 : Nat} (h0 : v0 = 7) : v0 ≤ 7 := by first | exact Nat.le_of_eq h0 | omega
theorem om11 {v0 v1 : Nat} (h0 : v0 ≤ 6) (h1 : v1 ≤ 6) : (v0 + v1) ≤ 100 := by first | lia | omega
theorem om12 {v0 v1 v2 : Nat} (h0 : v0 = 7) (h1 : v1 ≤ v2) (h2 : v2 ≤ 7) : v1 ≤ v0 := by first | lia | omega
theorem om13 {v0 v1 : Nat} (h0 : v0 = 7) (h1 : v1 ≤ 7) : v1 ≤ v0 := by first | (subst h0; exact h1) | omega
theorem om14 {v0 : Nat} (h0 : 217 < (v0 + 1)) : (v0 + 10) ≠ 217 := by first | lia | omega
theorem om15 {v0 : Nat} (h0 : 217 < (v0 + 1)) : (v0 + 9) ≠ 217 := by first | lia | omega
theorem om16 {v0 : Nat} (h0 : 217 < (v0 + 1)) : (v0 + 8) ≠ 217 := by first | lia | omega
theorem om17 {v0 : Nat} (h0 : 217 < (v0 + 1)) : (v0 + 7) ≠ 217 := by first | lia | omega
theorem om18 {v0 : Nat} (h0 : 217 < (v0 + 1)) : (v0 + 4) ≠ 217 := by first | lia | omega
theorem om19 {v0 : Nat} (h0 : 217 < (v0 + 1)) : (v0 + 1) ≠ 217 := by first | exact Nat.ne_of_gt h0 | omega
theorem om20 {v0 : Nat} (h0 : (v0 ≤ 8) ∧ (1 ≤ v0)) : 0 < v0 := by first | lia | omega
theorem om21 {v0 v1 : Nat} (h0 : v0 ≤ v1) (h1 : v1 ≤ 7) : v0 ≤ 100 := by first | exact Nat.le_trans (Nat.le_trans h0 h1) (by decide) | omega
theorem om22 {v0 : Nat} (h0 : v0 < 4) : v0 ≤ 100 := by first | exact Nat.le_trans (Nat.le_of_lt h0) (by decide) | omega
theorem om23   : 0 ≤ 100 := by first | decide | omega
theorem om24 {v0 : Nat}  : ((1 : Int) + (Nat.cast v0 : Int)) = (Nat.cast (1 + v0) : Int) := by first | exact rfl | omega
theorem om25 {v0 v1 : Nat} (h0 : v0 < 6) (h1 : ((1 : Int) + (Nat.cast v0 : Int)) = (Nat.cast v1 : Int)) : 1 ≤ v1 := by first | lia | omega
theorem om26 {v0 v1 : Nat} (h0 : v0 < 6) (h1 : ((1 : Int) + (Nat.cast v0 : Int)) = (Nat.cast v1 : Int)) : v1 < 7 := by first | lia | omega
theorem om27 {v0 v1 v2 : Nat} (h0 : v0 = 7) (h1 : v1 < 6) (h2 : ((1 : Int) + (Nat.cast v1 : Int)) = (Nat.cast v2 : Int)) : v2 < v0 := by first | lia | omega
theorem om28 {v0 : Nat} (h0 : v0 = 7) : v0 ≤ 100 := by first | exact Nat.le_trans (Nat.le_of_eq h0) (by decide) | omega
theorem om29 {v0 : Int} (h0 : ((0 : Int) ≤ v0) ∧ (v0 < (7 : Int))) : (0 : Int) ≤ v0 := by first | lia | omega
theorem om30 {v0 : Nat} {v1 : Int} (h0 : v0 = 7) (h1 : ((0 : Int) ≤ v1) ∧ (v1 < (7 : Int))) : v1 < (Nat.cast v0 : Int) := by first | lia | omega
theorem om31 {v0 : Int} (h0 : ((0 : Int) ≤ v0) ∧ (v0 < (7 : Int))) : v0 < ((2 : Int) ^ 63) := by first | lia | omega
theorem om32 {v0 : Nat}  : (-(1000000 : Int)) ≤ (Nat.cast v0 : Int) := by first | exact Int.natCast_nonneg _ | omega
theorem om33 {v0 v1 : Nat} (h0 : v0 ≤ v1) (h1 : v1 ≤ 7) : (Nat.cast v0 : Int) ≤ (1000000 : Int) := by first | lia | omega
theorem om34 {v0 : Nat} (h0 : v0 ≤ 7) : (-(1000000 : Int)) ≤ (Nat.cast v0 : Int) := by first | exact Int.natCast_nonneg _ | omega
theorem om35 {v0 : Nat} (h0 : v0 ≤ 7) : (Nat.cast v0 : Int) ≤ (1000000 : Int) := by first | lia | omega
theorem om36 {v0 v1 : Nat} (h0 : v0 ≤ v1) : ((Nat.cast v1 : Int) - (Nat.cast v0 : Int)) = (Nat.cast (v1 - v0) : Int) := by first | lia | omega
theorem om37 {v0 v1 : Nat} (h0 : v0 ≤ v1) (h1 : v1 ≤ 7) : (v1 - v0) ≤ 16777216 := by first | lia | omega
theorem om38 {v0 v1 : Nat}  : ((Nat.cast v0 : Int) + (Nat.cast v1 : Int)) = (Nat.cast (v0 + v1) : Int) := by first | exact rfl | omega
theorem om39 {v0 v1 v2 v3 v4 v5 v6 v7 : Nat} (h0 : v0 = 7) (h1 : v1 ≤ v2) (h2 : v2 ≤ 7) (h3 : v3 < (v2 - v1)) (h4 : (v4 ≠ v5) ∧ ((v4 ≠ v6) ∧ (v5 ≠ v6))) (h5 : ((Nat.cast v1 : Int) + (Nat.cast v3 : Int)) = (Nat.cast v7 : Int)) : v7 < v0 := by first | lia | omega
theorem om40 {v0 v1 v2 v3 v4 v5 v6 : Nat} (h0 : v0 ≤ v1) (h1 : v1 ≤ 7) (h2 : v2 < (v1 - v0)) (h3 : (v3 ≠ v4) ∧ ((v3 ≠ v5) ∧ (v4 ≠ v5))) (h4 : ((Nat.cast v0 : Int) + (Nat.cast v2 : Int)) = (Nat.cast v6 : Int)) : v6 ≤ 100 := by first | lia | omega
theorem om41 {v0 v1 : Nat} (h0 : v0 ≤ v1) (h1 : v1 ≤ 7) : (v1 - v0) ≤ 7 := by first | lia | omega
theorem om42 {v0 v1 v4 v5 v6 : Nat} {v2 v3 : Prop} (h0 : (v0 = v1) ∧ (v2 ∧ v3)) (h1 : v4 = v1) (h2 : v1 ≤ 7) (h3 : v5 = v4) (h4 : v6 = v1) : (Nat.cast v5 : Int) < ((2 : Int) ^ 63) := by first | lia | omega
theorem om43 {v0 v1 v2 : Nat} (h0 : v0 = v1) (h1 : v2 = v0) : (Nat.cast v2 : Int) = (Nat.cast v1 : Int) := by first | lia | omega
theorem om44 {v0 v1 v4 v5 v6 : Nat} {v2 v3 : Prop} (h0 : (v0 = v1) ∧ (v2 ∧ v3)) (h1 : v4 = v1) (h2 : v1 ≤ 7) (h3 : v5 = v4) (h4 : v6 = v1) : (Nat.cast v6 : Int) < ((2 : Int) ^ 63) := by first | lia | omega
theorem om45 {v0 v1 v2 v3 : Nat} (h0 : v0 = v1) (h1 : v2 = v0) (h2 : v3 = v1) : (Nat.cast v3 : Int) = (Nat.cast v1 : Int) := by first | lia | omega
theorem om46 {v0 v1 : Nat} (h0 : v0 < (v1 + 1)) (h1 : v0 ≥ v1) : v0 = v1 := by first | lia | omega
theorem om47 {v0 : Nat} (h0 : v0 = 7) : (Nat.cast v0 : Int) < ((2 : Int) ^ 63) := by first | lia | omega
theorem om48 {v0 v1 : Nat} (h0 : v0 = 7) (h1 : v1 < 7) : v1 < v0 := by first | (subst h0; exact h1) | omega
theorem om49 {v0 : Nat}  : ((0 : Int) + (Nat.cast v0 : Int)) = (Nat.cast v0 : Int) := by first | lia | omega
theorem om50 {v0 v1 v2 v3 : Nat} (h0 : v0 = 4) (h1 : v1 < v0) (h2 : v2 = v1) (h3 : v3 = v1) : v2 ≤ 1000 := by first | lia | omega
theorem om51 {v0 v1 v2 v3 : Nat} (h0 : v0 = 4) (h1 : v1 < v0) (h2 : v2 = v1) (h3 : v3 = v1) : v3 ≤ 1000 := by first | lia | omega
theorem om52 {v0 v1 v2 v3 : Nat} (h0 : v0 = v1) (h1 : v2 < v1) (h2 : v3 = (v1 + 1)) (h3 : v1 ≤ 7) : (min v2 v3) ≤ 1000 := by first | lia | omega
theorem om53 {v0 v1 v2 : Nat} (h0 : v0 = 7) (h1 : v1 ≤ 7) (h2 : (v2 + 1) ≤ v1) : v2 < v0 := by first | lia | omega
theorem om54 {v0 v1 : Nat} (h0 : (v0 + 1) ≤ v1) (h1 : ¬ ((v0 + 1) = v1)) : (v0 + 1) < v1 := by first | lia | omega
theorem om55 {v0 : Nat}  : ((Nat.cast v0 : Int) + (1 : Int)) = (Nat.cast (v0 + 1) : Int) := by first | exact rfl | omega
theorem om56 {v0 v1 : Nat} (h0 : v0 ≤ v1) : v0 ≤ (v1 + 1) := by first | exact Nat.le_trans h0 (Nat.le_add_right _ _) | omega
theorem om57 {v0 v1 : Nat} (h0 : (v0 + 1) ≤ v1) (h1 : ¬ ((v0 + 1) = v1)) : (v0 + 2) ≤ v1 := by first | lia | omega
theorem om58 {v0 v1 : Nat} (h0 : (v0 + 1) ≤ v1) (h1 : ¬ ((v0 + 1) = v1)) : ((v1 - 1) - (v0 + 1)) < ((v1 - 1) - v0) := by first | lia | omega
theorem om59 {v0 v1 v2 : Nat} (h0 : v0 = v1) (h1 : v2 = (v1 + 1)) (h2 : v1 ≤ 7) : (min v1 v2) ≤ 1000 := by first | lia | omega
theorem om60 {v0 v1 : Nat} (h0 : v0 = (v1 + 1)) : v0 ≤ (v1 + 1) := by first | exact Nat.le_of_eq h0 | omega
theorem om61 {v0 v1 v2 v3 : Nat} (h0 : v0 = 4) (h1 : v1 = v2) (h2 : v3 = v2) (h3 : v2 = v0) : v1 = 4 := by first | lia | omega
theorem om62 {v0 v1 v2 : Nat} (h0 : v0 = 4) (h1 : v1 = v2) (h2 : v2 = v0) : v1 = 4 := by first | lia | omega
theorem om63 {v0 v1 : Nat} (h0 : v0 ≤ (6 * v1)) : v0 ≤ (6 * (v1 + 1)) := by first | exact Nat.le_trans h0 (Nat.le_add_right _ _) | omega
theorem om64 {v0 : Nat}  : 0 ≤ (6 * (v0 + 1)) := by first | lia | omega
theorem om65 {v0 : Nat}  : 0 ≤ (6 * v0) := by first | lia | omega
theorem om66 {v0 v1 v2 : Nat} (h0 : v0 ≤ 6) (h1 : v1 ≤ (6 * v2)) : (v0 + v1) ≤ (6 * (v2 + 1)) := by first | lia | omega
theorem om67 {v0 v1 v2 : Nat} (h0 : v0 = v1) : ((min v2 v0) + ((v0 - v2) + 1)) = (v1 + 1) := by first | lia | omega
theorem om68 {v0 : Nat} (h0 : (v0 + 1) ≤ 7) : v0 ≤ 7 := by first | exact Nat.le_of_lt h0 | omega
theorem om69 {v0 : Nat} (h0 : (v0 + 1) ≤ 7) : v0 < 7 := by first | exact h0 | omega
theorem om70   : (-(1000000 : Int)) ≤ (0 : Int) := by first | decide | omega
theorem om71   : (0 : Int) ≤ (1000000 : Int) := by first | decide | omega
theorem om72   : (-(1000000 : Int)) ≤ (7 : Int) := by first | decide | omega
theorem om73   : (7 : Int) ≤ (1000000 : Int) := by first | decide | omega
theorem om74   : ((7 : Int) - (0 : Int)) = (Nat.cast 7 : Int) := by first | decide | omega
theorem om75 {v0 v1 : Nat} (h0 : v0 < 7) (h1 : v1 = v0) : (0 : Int) ≤ ((0 : Int) + (Nat.cast v0 : Int)) := by first | exact Int.natCast_nonneg _ | omega
theorem om76 {v0 v1 v2 : Nat} (h0 : v0 = 7) (h1 : v1 < 7) (h2 : v2 = v1) : ((0 : Int) + (Nat.cast v1 : Int)) < (Nat.cast v0 : Int) := by first | lia | omega
theorem om77 {v0 v1 : Nat} (h0 : v0 < 7) (h1 : v1 = v0) : ((0 : Int) + (Nat.cast v0 : Int)) < ((2 : Int) ^ 63) := by first | lia | omega
theorem om78 {v0 v1 : Nat} (h0 : v0 < 7) (h1 : v1 = v0) : (Int.toNat ((0 : Int) + (Nat.cast v0 : Int))) = v0 := by first | lia | omega
theorem om79 {v0 v1 : Nat} (h0 : v0 < 7) (h1 : v1 = v0) : v1 ≤ 1000 := by first | lia | omega
theorem om80 {v0 v1 : Nat} {v2 : Int} (h0 : v0 < 7) (h1 : v1 = v0) (h2 : v2 < (Nat.cast v0 : Int)) (h3 : ¬ (v2 < (0 : Int))) : (Int.toNat ((0 : Int) + (Nat.cast v0 : Int))) = v0 := by first | lia | omega
theorem om81 {v0 : Int} (h0 : ¬ (v0 < (0 : Int))) : (0 : Int) ≤ v0 := by first | lia | omega
theorem om82 {v0 v1 v2 : Nat} {v3 : Int} (h0 : v0 = 7) (h1 : v1 < 7) (h2 : v2 = v1) (h3 : v3 < (Nat.cast v1 : Int)) : v3 < (Nat.cast v0 : Int) := by first | lia | omega
theorem om83 {v0 v1 : Nat} {v2 : Int} (h0 : v0 < 7) (h1 : v1 = v0) (h2 : v2 < (Nat.cast v0 : Int)) : v2 < ((2 : Int) ^ 63) := by first | lia | omega
theorem om84 {v0 : Int} {v1 : Nat} (h0 : v0 < (Nat.cast v1 : Int)) : v0 < (Nat.cast v1 : Int) := by first | exact h0 | omega
theorem om85 {v0 v1 : Nat} (h0 : v0 < 7) (h1 : v1 = v0) : 0 ≤ (6 * v0) := by first | lia | omega
theorem om86 {v0 v1 v2 v3 : Nat} (h0 : v0 < 7) (h1 : v1 = v0) (h2 : v2 ≤ 6) (h3 : v3 ≤ (6 * v0)) : (v2 + v3) ≤ 16777216 := by first | lia | omega
theorem om87 {v0 : Int} (h0 : ¬ (v0 < (0 : Int))) : ¬ (v0 < (0 : Int)) := by first | exact h0 | omega
theorem om88 {v0 v1 : Nat} (h0 : v0 < v1) (h1 : v1 = 7) : v0 < 7 := by first | (subst h1; exact h0) | omega
theorem om89 {v0 v1 v2 : Nat} (h0 : v0 < 7) (h1 : v1 = v0) (h2 : v2 = v1) : v0 ≤ 7 := by first | exact Nat.le_of_lt h0 | omega
theorem om90 {v0 : Int} (h0 : (0 : Int) ≤ v0) : (0 : Int) ≤ v0 := by first | exact h0 | omega
theorem om91 {v0 : Int} (h0 : v0 < (Nat.cast 7 : Int)) : v0 < (Nat.cast 7 : Int) := by first | exact h0 | omega
theorem om92 {v0 : Int} (h0 : (0 : Int) ≤ v0) (h1 : v0 < (Nat.cast 7 : Int)) : v0 < ((2 : Int) ^ 63) := by first | exact Int.le_trans h1 (by decide) | omega
theorem om93 {v0 v1 : Nat} (h0 : (v0 + 3) < v1) : (v0 + 3) < v1 := by first | exact h0 | omega
theorem om94 {v0 v1 : Nat} (h0 : (v0 + 24) < v1) : (v0 + 19) < v1 := by first | exact Nat.lt_of_le_of_lt (Nat.add_le_add_left (by decide) _) h0 | omega
theorem om95 {v0 v1 v2 : Nat} (h0 : v0 < 7) (h1 : v1 = v0) (h2 : v2 = v1) : v1 ≤ 7 := by first | lia | omega
theorem om96 {v0 v1 : Nat} (h0 : (v0 + 8) < v1) : (v0 + 7) < v1 := by first | exact Nat.le_of_lt h0 | omega
theorem om97 {v0 v1 : Nat} (h0 : (v0 + 64) < v1) : (v0 + 51) < v1 := by first | exact Nat.lt_of_le_of_lt (Nat.add_le_add_left (by decide) _) h0 | omega
theorem om98 {v0 v1 v2 : Nat} (h0 : v0 < 7) (h1 : v1 = v0) (h2 : v2 = v1) : v0 ≤ 1000 := by first | exact Nat.le_trans (Nat.le_of_lt h0) (by decide) | omega
theorem om99 {v0 v1 : Nat} (h0 : (v0 + 2) < v1) : (v0 + 2) < v1 := by first | exact h0 | omega
theorem om100 {v0 v1 : Nat} (h0 : (v0 + 16) < v1) : (v0 + 11) < v1 := by first | exact Nat.lt_of_le_of_lt (Nat.add_le_add_left (by decide) _) h0 | omega
theorem om101 {v0 : Nat} (h0 : v0 = 1) : v0 ≤ 2 := by first | exact Nat.le_trans (Nat.le_of_eq h0) (by decide) | omega
theorem om102 {v0 v1 : Nat} (h0 : (v0 + 3) < v1) : (v0 + 2) < v1 := by first | exact Nat.le_of_lt h0 | omega
theorem om103 {v0 v1 : Nat} (h0 : (v0 + 24) < v1) : (v0 + 11) < v1 := by first | exact Nat.lt_of_le_of_lt (Nat.add_le_add_left (by decide) _) h0 | omega
theorem om104 {v0 v1 : Nat} (h0 : (v0 + 3) < v1) : (v0 + 1) < v1 := by first | exact Nat.lt_of_le_of_lt (Nat.add_le_add_left (by decide) _) h0 | omega
theorem om105 {v0 v2 : Nat} {v1 : Int} (h0 : ¬ ((Nat.cast v0 : Int) ≠ ((v1 + (Nat.cast v2 : Int)) - (1 : Int)))) : (Nat.cast v0 : Int) = ((v1 + (Nat.cast v2 : Int)) - (1 : Int)) := by first | lia | omega
theorem om106 {v0 v2 : Nat} {v1 : Int} (h0 : (Nat.cast v0 : Int) = ((v1 + (Nat.cast v2 : Int)) - (1 : Int))) (h1 : (Nat.cast v0 : Int) ≠ ((v1 + (Nat.cast v2 : Int)) - (1 : Int))) : False := by first | exact absurd h0 h1 | omega
theorem om107 {v0 v1 v2 v3 v4 : Nat} (h0 : v0 ≤ 500) (h1 : v1 < v2) (h2 : v2 ≤ v0) (h3 : v3 ≤ v1) (h4 : v4 = v3) : v4 ≤ 1000 := by first | lia | omega
theorem om108 {v0 v1 v2 v3 v4 : Nat} (h0 : v0 ≤ 500) (h1 : v1 < v2) (h2 : v2 ≤ v0) (h3 : v3 ≤ (v1 + 1)) (h4 : v4 = v3) : v4 ≤ 1000 := by first | lia | omega
theorem om109 {v0 v1 : Nat} (h0 : v0 ≤ v1) : v0 ≤ v1 := by first | exact h0 | omega
theorem om110 {v0 v1 : Nat} (h0 : v0 ≤ (v1 + 1)) : v0 ≤ (v1 + 1) := by first | exact h0 | omega
theorem om111 {v0 : Nat}  : 0 ≤ (v0 + 1) := by first | lia | omega
theorem om112 {v0 v1 v2 v3 v4 : Nat} (h0 : v0 ≤ 500) (h1 : v1 ≤ (v2 + 1)) (h2 : v2 < v3) (h3 : v3 ≤ v0) (h4 : v4 = v1) : v1 ≤ 1000 := by first | lia | omega
theorem om113 {v0 v1 v2 : Nat} (h0 : v0 ≤ (v1 + 1)) (h1 : v2 = v0) : v0 ≤ (v1 + 3) := by first | lia | omega
theorem om114 {v0 v2 : Nat} {v1 : Int} (h0 : (Nat.cast v0 : Int) = ((v1 + (Nat.cast v2 : Int)) - (1 : Int))) (h1 : (Nat.cast v2 : Int) = (1 : Int)) : v2 = 1 := by first | lia | omega
theorem om115 {v0 : Int} {v1 : Nat} (h0 : ((0 : Int) ≤ v0) ∧ ((Int.toNat v0) < v1)) : (0 : Int) ≤ v0 := by first | lia | omega
theorem om116 {v0 v1 : Nat} {v2 : Int} (h0 : v0 = v1) (h1 : ((0 : Int) ≤ v2) ∧ ((Int.toNat v2) < v1)) : v2 < (Nat.cast v1 : Int) := by first | lia | omega
theorem om117 {v0 v1 v2 v3 v4 : Nat} {v5 : Int} (h0 : v0 ≤ 500) (h1 : v1 < v2) (h2 : v2 ≤ v0) (h3 : v3 ≤ v1) (h4 : v4 = v3) (h5 : ((0 : Int) ≤ v5) ∧ ((Int.toNat v5) < v3)) : v5 < ((2 : Int) ^ 63) := by first | lia | omega
theorem om118 {v0 v1 v2 v3 v4 : Nat} (h0 : v0 ≤ 500) (h1 : v1 < v2) (h2 : v2 ≤ v0) (h3 : (Nat.cast v3 : Int) = (1 : Int)) (h4 : v4 ≤ v1) : (v4 + v3) ≤ 16777216 := by first | lia | omega
theorem om119 {v0 v1 : Nat} {v2 : Int} (h0 : v0 = v1) (h1 : ((0 : Int) ≤ v2) ∧ ((Int.toNat v2) < v1)) : (Int.toNat v2) < v0 := by first | lia | omega
theorem om120 {v0 v1 v2 : Nat} (h0 : v0 ≤ (v1 + 1)) (h1 : v2 = v0) : v0 ≤ (v1 + 2) := by first | lia | omega
theorem om121 {v0 v1 v2 : Nat} (h0 : v0 ≤ v1) (h1 : v2 = v0) : v0 ≤ (v1 + 1) := by first | exact Nat.le_trans h0 (Nat.le_add_right _ _) | omega
theorem om122 {v0 v1 v2 : Nat} (h0 : (Nat.cast v0 : Int) = (1 : Int)) (h1 : v1 ≤ v2) : (v1 + v0) ≤ (v2 + 1) := by first | lia | omega
theorem om123 {v0 v2 : Nat} {v1 : Int} (h0 : (Nat.cast v0 : Int) = ((v1 + (Nat.cast v2 : Int)) - (1 : Int))) (h1 : (Nat.cast v2 : Int) ≠ (1 : Int)) : ¬ (v2 = 1) := by first | lia | omega
theorem om124 {v0 : Nat} {v1 : Int} (h0 : v0 = 7) (h1 : (0 : Int) ≤ v1) (h2 : v1 < (Nat.cast 7 : Int)) : v1 < (Nat.cast v0 : Int) := by first | (subst h0; exact h2) | omega
theorem om125 {v0 v1 : Nat} (h0 : (v0 + 8) < v1) : (v0 + 6) < v1 := by first | exact Nat.lt_of_le_of_lt (Nat.add_le_add_left (by decide) _) h0 | omega
theorem om126 {v0 v1 : Nat} (h0 : (v0 + 64) < v1) : (v0 + 43) < v1 := by first | exact Nat.lt_of_le_of_lt (Nat.add_le_add_left (by decide) _) h0 | omega
theorem om127 {v0 : Int} (h0 : ((0 : Int) ≤ v0) ∧ (v0 < (7 : Int))) : v0 = (Nat.cast (Int.toNat v0) : Int) := by first | lia | omega
theorem om128 {v0 : Nat} {v1 : Int} (h0 : ((0 : Int) ≤ (Nat.cast v0 : Int)) ∧ ((Nat.cast v0 : Int) < (7 : Int))) (h1 : v1 = (Nat.cast v0 : Int)) : (0 : Int) ≤ (Nat.cast v0 : Int) := by first | exact Int.natCast_nonneg _ | omega
theorem om129 {v0 v1 : Nat} {v2 : Int} (h0 : v0 = 7) (h1 : ((0 : Int) ≤ (Nat.cast v1 : Int)) ∧ ((Nat.cast v1 : Int) < (7 : Int))) (h2 : v2 = (Nat.cast v1 : Int)) : (Nat.cast v1 : Int) < (Nat.cast v0 : Int) := by first | lia | omega
theorem om130 {v0 : Nat} {v1 : Int} (h0 : ((0 : Int) ≤ (Nat.cast v0 : Int)) ∧ ((Nat.cast v0 : Int) < (7 : Int))) (h1 : v1 = (Nat.cast v0 : Int)) : (Nat.cast v0 : Int) < ((2 : Int) ^ 63) := by first | lia | omega
theorem om131 {v0 v1 v2 : Nat} {v3 : Int} (h0 : v0 = 7) (h1 : v1 = v0) (h2 : ((0 : Int) ≤ (Nat.cast v2 : Int)) ∧ ((Nat.cast v2 : Int) < (7 : Int))) (h3 : v3 = (Nat.cast v2 : Int)) : (v2 + 1) ≤ v1 := by first | lia | omega
theorem om132 {v0 v1 : Nat} (h0 : (v0 + 10) < v1) : (v0 + 10) < v1 := by first | exact h0 | omega
theorem om133 {v0 v1 v2 : Nat} (h0 : v0 = v1) (h1 : v2 < v1) : v2 < v0 := by first | (subst h0; exact h1) | omega
theorem om134 {v0 v1 v2 : Nat} (h0 : v0 = v1) (h1 : v2 < (v1 + 1)) (h2 : v2 ≥ v1) : v2 = v1 := by first | lia | omega
theorem om135 {v0 v1 v2 : Nat} (h0 : (v0 + 10) < v1) (h1 : v1 < v2) : (v0 + 10) < v2 := by first | exact Nat.lt_trans h0 h1 | omega
theorem om136 {v0 v1 v2 v3 : Nat} (h0 : v0 ≤ (v1 * v2)) (h1 : v3 ≤ v2) : (v3 + v0) ≤ ((v1 * v2) + v2) := by first | lia | omega
theorem om137 {v0 v1 v2 v3 : Nat} (h0 : v0 ≤ v1) (h1 : v2 ≤ (v0 * v3)) (h2 : (v0 * v3) ≤ (v1 * v3)) : (v2 + v0) ≤ ((v1 * v3) + v1) := by first | lia | omega
theorem om138 {v0 v1 : Nat} (h0 : (v0 + 2) < v1) : (v0 + 1) < v1 := by first | exact Nat.le_of_lt h0 | omega
theorem om139 {v0 v1 v2 v3 : Nat} (h0 : v0 ≤ 500) (h1 : v1 ≤ v2) (h2 : v3 ≤ v0) (h3 : v2 < v3) : v1 ≤ 16777216 := by first | lia | omega
theorem om140 {v0 v1 : Nat} (h0 : v0 ≤ 500) (h1 : v1 ≤ v0) : v1 ≤ 500 := by first | exact Nat.le_trans h1 h0 | omega
theorem om141 {v0 v1 : Int} (h0 : v0 = v1) : ¬ (v0 ≠ v1) := by first | lia | omega
theorem om142 {v0 v1 v2 : Nat} (h0 : v0 ≤ 500) (h1 : v1 ≤ v2) (h2 : v2 ≤ v0) : v1 ≤ 16777216 := by first | lia | omega
theorem om143 {v0 v1 v2 : Nat} (h0 : v0 ≤ 500) (h1 : v1 ≤ v0) (h2 : v2 ≤ v1) : v2 ≤ 500 := by first | lia | omega
theorem om144 {v0 : Int} {v1 : Nat} (h0 : ¬ (v0 < (Nat.cast v1 : Int))) : ¬ (v0 < (Nat.cast v1 : Int)) := by first | exact h0 | omega
theorem om145 {v0 v1 v2 : Nat} (h0 : v0 ≤ 500) (h1 : v1 ≤ v2) (h2 : v2 ≤ v0) : v1 ≤ 501 := by first | lia | omega
theorem om146 {v0 : Int} (h0 : (-(1000000 : Int)) ≤ v0) (h1 : v0 ≤ (1000000 : Int)) : ((-(9223372036854775808 : Int)) ≤ v0) ∧ (v0 < (9223372036854775808 : Int)) := by first | lia | omega
theorem om147 {v0 : Int} (h0 : (0 : Int) ≤ v0) (h1 : v0 < (4 : Int)) : (-(1000000 : Int)) ≤ v0 := by first | lia | omega
theorem om148 {v0 : Int} (h0 : (0 : Int) ≤ v0) (h1 : v0 < (4 : Int)) : v0 ≤ (1000000 : Int) := by first | lia | omega
theorem om149 {v0 : Int} (h0 : (0 : Int) ≤ v0) (h1 : v0 < (4 : Int)) : (-(Nat.cast 4 : Int)) ≤ v0 := by first | lia | omega
theorem om150 {v0 : Int} (h0 : v0 < (4 : Int)) : v0 < (Nat.cast 4 : Int) := by first | exact h0 | omega
theorem om151 {v0 : Int} {v1 : Nat} (h0 : (0 : Int) ≤ v0) (h1 : v0 < (Nat.cast v1 : Int)) (h2 : v0 < ((2 : Int) ^ 63)) : (Int.toNat v0) < v1 := by first | lia | omega
theorem om152   : (-(1000000 : Int)) ≤ (1 : Int) := by first | decide | omega
theorem om153   : (1 : Int) ≤ (1000000 : Int) := by first | decide | omega
theorem om154   : ((7 : Int) - (1 : Int)) = (Nat.cast 6 : Int) := by first | decide | omega
theorem om155 {v0 : Nat} (h0 : v0 < 6) : (0 : Int) ≤ (((1 : Int) + (Nat.cast v0 : Int)) - (1 : Int)) := by first | lia | omega
theorem om156 {v0 : Nat} (h0 : v0 < 6) : (((1 : Int) + (Nat.cast v0 : Int)) - (1 : Int)) < (6 : Int) := by first | lia | omega
theorem om157 {v0 : Nat} (h0 : v0 < 6) : (((1 : Int) + (Nat.cast v0 : Int)) - (1 : Int)) < ((2 : Int) ^ 63) := by first | lia | omega
theorem om158 {v0 v1 : Nat} (h0 : v0 ≤ 63) (h1 : v1 = v0) : (Nat.cast v1 : Int) < ((2 : Int) ^ 63) := by first | lia | omega
theorem om159 {v0 v1 v2 : Nat} (h0 : v0 < 6) (h1 : v1 = (v0 + 1)) (h2 : v2 = (v0 + 1)) : ((1 : Int) + (Nat.cast v0 : Int)) ≠ (0 : Int) := by first | lia | omega
theorem om160 {v0 v1 v2 : Nat} (h0 : v0 < 6) (h1 : v1 = (v0 + 1)) (h2 : v2 = (v0 + 1)) : (0 : Int) ≤ (((1 : Int) + (Nat.cast v0 : Int)) - (1 : Int)) := by first | lia | omega
theorem om161 {v0 v1 v2 v3 v4 : Nat} (h0 : v0 = v1) (h1 : v2 = (v3 + 1)) (h2 : v4 = (v3 + 1)) (h3 : ((1 : Int) + (Nat.cast v3 : Int)) ≤ (Nat.cast v1 : Int)) : (((1 : Int) + (Nat.cast v3 : Int)) - (1 : Int)) < (Nat.cast v1 : Int) := by first | lia | omega
theorem om162 {v0 v1 v2 : Nat} (h0 : v0 < 6) (h1 : v1 = (v0 + 1)) (h2 : v2 = (v0 + 1)) : (((1 : Int) + (Nat.cast v0 : Int)) - (1 : Int)) < ((2 : Int) ^ 63) := by first | lia | omega
theorem om163 {v0 v1 v2 v3 : Nat} (h0 : v0 < 6) (h1 : v1 = v2) (h2 : v2 = (v0 + 1)) (h3 : v3 = (v0 + 1)) : v1 ≤ 1000 := by first | lia | omega
theorem om164 {v0 v1 v2 v3 : Nat} (h0 : v0 < 6) (h1 : v1 = v2) (h2 : v3 = (v0 + 1)) (h3 : v2 = (v0 + 1)) : v1 ≤ 1000 := by first | lia | omega
theorem om165 {v0 : Nat} {v1 v2 v3 v4 v5 v6 v7 : Prop} (h0 : v0 < 0) : v1 → (v2 → (v3 → (v4 → (v5 → (v6 → v7))))) := by first | lia | omega
theorem om166 {v0 v1 v2 : Nat} (h0 : v0 < (v1 + 1)) (h1 : v2 < v0) : v2 < v1 := by first | lia | omega
theorem om167 {v0 v1 : Nat} (h0 : v0 ≤ 7) (h1 : v1 = v0) : (Nat.cast v1 : Int) < ((2 : Int) ^ 63) := by first | lia | omega
theorem om168 {v0 v1 : Nat}  : (((Nat.cast v0 : Int) + (Nat.cast v1 : Int)) / (2 : Int)) = (Nat.cast ((v0 + v1) / 2) : Int) := by first | exact rfl | omega
theorem om169 {v0 : Int} {v1 v2 : Nat} (h0 : v0 = (Nat.cast ((v1 + v2) / 2) : Int)) : (v0 + (1 : Int)) = (Nat.cast (((v1 + v2) / 2) + 1) : Int) := by first | lia | omega
theorem om170 {v0 v1 v2 v3 : Nat} (h0 : v0 = v1) (h1 : v2 ≤ v1) (h2 : v3 < v2) : ((v3 + v2) / 2) < v1 := by first | lia | omega
theorem om171 {v0 v1 v2 v3 v4 : Nat} {v5 : Int} (h0 : v0 ≤ 7) (h1 : v1 ≤ v0) (h2 : v2 = v0) (h3 : v3 ≤ v1) (h4 : v4 ≤ v0) (h5 : v3 < v4) (h6 : v5 = (Nat.cast ((v3 + v4) / 2) : Int)) : (0 : Int) ≤ v5 := by first | lia | omega
theorem om172 {v0 v1 v2 v3 : Nat} {v4 : Int} (h0 : v0 = v1) (h1 : v2 ≤ v1) (h2 : v3 < v2) (h3 : v4 = (Nat.cast ((v3 + v2) / 2) : Int)) : v4 < (Nat.cast v1 : Int) := by first | lia | omega
theorem om173 {v0 v1 v2 v3 v4 : Nat} {v5 : Int} (h0 : v0 ≤ 7) (h1 : v1 ≤ v0) (h2 : v2 = v0) (h3 : v3 ≤ v1) (h4 : v4 ≤ v0) (h5 : v3 < v4) (h6 : v5 = (Nat.cast ((v3 + v4) / 2) : Int)) : v5 < ((2 : Int) ^ 63) := by first | lia | omega
theorem om174 {v0 v1 v2 v3 v4 : Nat} {v5 : Int} (h0 : v0 ≤ 7) (h1 : v1 ≤ v0) (h2 : v2 = v0) (h3 : v3 ≤ v1) (h4 : v4 ≤ v0) (h5 : v3 < v4) (h6 : v5 = (Nat.cast ((v3 + v4) / 2) : Int)) : (Int.toNat v5) = ((v3 + v4) / 2) := by first | lia | omega
theorem om175 {v0 v1 : Nat} (h0 : (v0 + 5) < v1) : (v0 + 4) < v1 := by first | exact Nat.le_of_lt h0 | omega
theorem om176 {v0 v1 : Nat} (h0 : (v0 + 40) < v1) : (v0 + 27) < v1 := by first | exact Nat.lt_of_le_of_lt (Nat.add_le_add_left (by decide) _) h0 | omega
theorem om177 {v0 v1 : Nat} (h0 : (v0 + 40) < v1) : (v0 + 3) < v1 := by first | exact Nat.lt_of_le_of_lt (Nat.add_le_add_left (by decide) _) h0 | omega
theorem om178 {v0 v1 v2 : Nat} (h0 : v0 ≤ ((v1 + v2) / 2)) : v0 ≤ ((v1 + v2) / 2) := by first | exact h0 | omega
theorem om179 {v0 v1 v2 v3 : Nat} (h0 : v0 = v1) (h1 : v2 ≤ v1) (h2 : v3 < v2) : ((v3 + v2) / 2) ≤ v1 := by first | lia | omega
theorem om180 {v0 v1 v2 v3 v4 : Nat} (h0 : v0 ≤ 7) (h1 : v1 ≤ v0) (h2 : v2 = v0) (h3 : v3 ≤ v1) (h4 : v4 ≤ v0) (h5 : v3 < v4) : (((v3 + v4) / 2) - v3) < (v4 - v3) := by first | lia | omega
theorem om181 {v0 v1 v2 : Nat} (h0 : ¬ (v0 ≤ ((v1 + v2) / 2))) : (((v1 + v2) / 2) + 1) ≤ v0 := by first | lia | omega
theorem om182 {v0 v1 v2 v3 v4 : Nat} (h0 : v0 ≤ 7) (h1 : v1 ≤ v0) (h2 : v2 = v0) (h3 : v3 ≤ v1) (h4 : v4 ≤ v0) (h5 : v3 < v4) : (v4 - (((v3 + v4) / 2) + 1)) < (v4 - v3) := by first | lia | omega
theorem om183 {v0 v1 v2 : Nat} (h0 : v0 ≤ v1) (h1 : v1 ≤ v2) (h2 : ¬ (v0 < v2)) : v0 = v1 := by first | lia | omega
theorem om184 {v0 v1 v2 : Nat} (h0 : ((v0 + v1) / 2) < v2) : (((v0 + v1) / 2) + 1) ≤ v2 := by first | exact h0 | omega
theorem om185 {v0 v1 v2 : Nat} (h0 : ¬ (((v0 + v1) / 2) < v2)) : v2 ≤ ((v0 + v1) / 2) := by first | lia | omega
theorem om186 {v0 v1 : Int} (h0 : ¬ (v0 < v1)) : ¬ (v0 < v1) := by first | exact h0 | omega
theorem om187 {v0 : Nat} (h0 : v0 = 4) : v0 ≤ 4 := by first | exact Nat.le_of_eq h0 | omega
theorem om188 {v0 : Nat} (h0 : v0 = 4) : v0 ≤ 1000 := by first | exact Nat.le_trans (Nat.le_of_eq h0) (by decide) | omega
theorem om189 {v0 v1 : Nat} (h0 : (v0 + 0) = v1) : v0 = v1 := by first | exact h0 | omega
theorem om190 {v0 v1 v2 : Nat} (h0 : (v0 + (v1 + 1)) = v2) : v0 < v2 := by first | lia | omega
theorem om191 {v0 v1 v2 : Nat} (h0 : (v0 + (v1 + 1)) = v2) : ((v0 + 1) + v1) = v2 := by first | lia | omega
theorem om192 {v0 : Nat}  : (0 + v0) = v0 := by first | lia | omega
theorem om193 {v0 v1 : Int} {v2 : Nat} (h0 : (v0 - v1) = (Nat.cast v2 : Int)) : ((((v0 - v1) - (1 : Int)) / (1 : Int)) + (1 : Int)) = (Nat.cast v2 : Int) := by first | lia | omega
theorem om194 {v0 v1 : Int} {v2 : Nat} (h0 : (v0 - v1) = (Nat.cast v2 : Int)) (h1 : ¬ (v1 < v0)) : (0 : Int) = (Nat.cast v2 : Int) := by first | lia | omega
theorem om195 {v0 v1 : Int}  : ((((v0 - v1) - (1 : Int)) / (1 : Int)) + (1 : Int)) = (v0 - v1) := by first | lia | omega
theorem om196   : (0 : Int) = (0 : Int) := by first | decide | omega
theorem om197 {v0 v1 : Int} (h0 : (-(1000000 : Int)) ≤ v0) (h1 : v0 ≤ (1000000 : Int)) (h2 : (-(1000000 : Int)) ≤ v1) (h3 : v1 ≤ (1000000 : Int)) (h4 : v0 < v1) : ((v1 - v0) ≤ (2000000 : Int)) ∧ ((0 : Int) ≤ (v1 - v0)) := by first | lia | omega
theorem om198   : ((0 : Int) ≤ (2000000 : Int)) ∧ ((0 : Int) ≤ (0 : Int)) := by first | decide | omega
theorem om199 {v0 : Int} (h0 : (-(1000000 : Int)) ≤ v0) (h1 : v0 ≤ (1000000 : Int)) : ((-((2 : Int) ^ 63)) ≤ v0) ∧ (v0 < ((2 : Int) ^ 63)) := by first | lia | omega
theorem om200 {v0 : Int} (h0 : (v0 ≤ (2000000 : Int)) ∧ ((0 : Int) ≤ v0)) : ((-((2 : Int) ^ 63)) ≤ v0) ∧ (v0 < ((2 : Int) ^ 63)) := by first | lia | omega
theorem om201 {v0 : Int} (h0 : (-(1000000 : Int)) ≤ v0) (h1 : v0 ≤ (1000000 : Int)) : ((-((2 : Int) ^ 63)) ≤ (v0 + ((1 : Int) - (1 : Int)))) ∧ ((v0 + ((1 : Int) - (1 : Int))) < ((2 : Int) ^ 63)) := by first | lia | omega
theorem om202 {v0 v1 v2 v3 : Nat} (h0 : v0 ≤ 6) (h1 : v1 ≤ 5) (h2 : v2 = 1) : ((v2 + v0) + v1) ≤ (12 + (0 * v3)) := by first | lia | omega
theorem om203 {v0 : Int} {v1 : Nat} (h0 : (0 : Int) ≤ v0) : (0 : Int) ≤ ((v0 + (1 : Int)) + (Nat.cast v1 : Int)) := by first | lia | omega
theorem om204 {v0 v1 v2 v3 : Nat} (h0 : v0 ≤ (12 + (v1 * v2))) (h1 : v3 ≤ v2) : (v0 + v3) ≤ (12 + ((v1 * v2) + v2)) := by first | lia | omega
theorem om205 {v0 v1 v2 : Nat} (h0 : v0 ≤ (12 + (v1 * v2))) : v0 ≤ (12 + ((v1 * v2) + v2)) := by first | lia | omega
theorem om206 {v0 : Int} (h0 : (0 : Int) ≤ v0) : (Int.toNat ((6 : Int) - v0)) ≤ 6 := by first | lia | omega
theorem om207 {v0 v1 v3 : Nat} {v2 : Int} (h0 : v0 = 1) (h1 : v1 ≤ (12 + ((Int.toNat ((6 : Int) - v2)) * v3))) (h2 : ((Int.toNat ((6 : Int) - v2)) * v3) ≤ (6 * v3)) : (v1 + v0) ≤ (13 + (6 * v3)) := by first | lia | omega
theorem om208 {v0 : Nat} (h0 : v0 ≤ 7) : v0 < 8 := by first | lia | omega
theorem om209 {v0 : Int} {v1 : Prop} (h0 : (0 : Int) ≤ v0) (h1 : v0 ≤ (6 : Int)) (h2 : ((7 : Int) - v0) ≤ (Nat.cast 0 : Int)) : v1 := by first | lia | omega
theorem om210 {v0 v1 : Nat} (h0 : v0 = 1) (h1 : v1 ≤ 6) : (v0 + v1) ≤ 16777216 := by first | lia | omega
theorem om211 {v0 v1 v2 : Nat} (h0 : v0 = 1) (h1 : v1 ≤ 6) (h2 : v2 ≤ 5) : ((v0 + v1) + v2) ≤ 16777216 := by first | lia | omega
theorem om212 {v0 : Int} (h0 : (0 : Int) ≤ v0) (h1 : v0 ≤ (6 : Int)) : (-(1000000 : Int)) ≤ (v0 + (1 : Int)) := by first | lia | omega
theorem om213 {v0 : Int} (h0 : (0 : Int) ≤ v0) (h1 : v0 ≤ (6 : Int)) : (v0 + (1 : Int)) ≤ (1000000 : Int) := by first | lia | omega
theorem om214 {v0 : Int} (h0 : (0 : Int) ≤ v0) (h1 : v0 ≤ (6 : Int)) : ((7 : Int) - (v0 + (1 : Int))) = (Nat.cast (Int.toNat ((6 : Int) - v0)) : Int) := by first | lia | omega
theorem om215 {v0 v1 : Int} {v2 : Nat} (h0 : (0 : Int) ≤ v0) (h1 : v0 ≤ (6 : Int)) (h2 : v1 = v0) : (0 : Int) ≤ ((v0 + (1 : Int)) + (Nat.cast v2 : Int)) := by first | lia | omega
theorem om216 {v0 : Nat} {v1 v2 : Int} (h0 : v0 < (Int.toNat ((6 : Int) - v1))) (h1 : v2 = v1) : ((v1 + (1 : Int)) + (Nat.cast v0 : Int)) ≤ (6 : Int) := by first | lia | omega
theorem om217 {v0 v2 : Int} {v1 v3 : Nat} (h0 : ((7 : Int) - v0) ≤ (Nat.cast (v1 + 1) : Int)) (h1 : v2 = v0) : ((7 : Int) - ((v0 + (1 : Int)) + (Nat.cast v3 : Int))) ≤ (Nat.cast v1 : Int) := by first | lia | omega
theorem om218 {v0 v1 v2 : Nat} (h0 : (v0 + (v1 + 1)) < v2) : ((v0 + 1) + v1) < v2 := by first | lia | omega
theorem om219 {v0 v1 v2 : Nat} (h0 : (v0 + (8 * (v1 + 1))) < v2) : ((v0 + 3) + (8 * v1)) < v2 := by first | lia | omega
theorem om220 {v0 v2 : Int} {v1 : Nat} (h0 : (0 : Int) ≤ v0) (h1 : v0 ≤ (6 : Int)) (h2 : v1 < (Int.toNat ((6 : Int) - v0))) (h3 : v2 = v0) : v1 ≤ 5 := by first | lia | omega
theorem om221 {v0 v1 v2 v3 : Nat} (h0 : (13 + (6 * v0)) ≤ 16000000) (h1 : v1 ≤ (12 + (v2 * v0))) (h2 : v3 ≤ v0) (h3 : (v2 * v0) ≤ (5 * v0)) : (v1 + v3) ≤ 16777216 := by first | lia | omega
theorem om222 {v0 : Int} (h0 : (0 : Int) ≤ v0) (h1 : v0 ≤ (6 : Int)) : (Int.toNat ((6 : Int) - v0)) ≤ 6 := by first | lia | omega
theorem om223 {v0 v1 v2 : Nat} {v3 : Int} (h0 : v0 = 1) (h1 : (13 + (6 * v1)) ≤ 16000000) (h2 : v2 ≤ (12 + ((Int.toNat ((6 : Int) - v3)) * v1))) (h3 : ((Int.toNat ((6 : Int) - v3)) * v1) ≤ (6 * v1)) : (v2 + v0) ≤ 16777216 := by first | lia | omega
theorem om224 {v0 : Nat} {v1 v2 : Prop} (h0 : v0 < 0) : v1 → v2 := by first | lia | omega
theorem om225 {v0 v1 : Nat} (h0 : (v0 + 1) < v1) : v0 < v1 := by first | exact Nat.le_of_lt h0 | omega
theorem om226 {v0 v1 v2 v3 : Nat} (h0 : v0 < v1) (h1 : v2 < v0) (h2 : v3 ≤ v2) : v3 ≤ v1 := by first | lia | omega
theorem om227 {v0 v1 v2 : Nat} (h0 : v0 < v1) (h1 : v2 ≤ v0) : v2 ≤ v1 := by first | lia | omega
theorem om228 {v0 v1 : Nat} (h0 : v0 < v1) : v0 < (v1 + 1) := by first | exact Nat.le_trans h0 (Nat.le_add_right _ _) | omega
theorem om229 {v0 v1 v2 : Nat} (h0 : v0 ≤ v1) (h1 : v1 < v2) : v0 ≤ (v2 + 1) := by first | lia | omega
theorem om230 {v0 v1 : Nat} (h0 : v0 < v1) : v0 < v1 := by first | exact h0 | omega
theorem om231 {v0 v1 v2 : Nat} (h0 : v0 ≤ v1) (h1 : v1 < v2) : v0 ≤ v2 := by first | lia | omega
theorem om232 {v0 : Nat}  : (v0 + 1) ≠ v0 := by first | exact Nat.ne_of_gt (Nat.lt_add_of_pos_right (by decide)) | omega
theorem om233 {v0 v1 : Nat} (h0 : v0 < v1) : v0 ≠ (v1 + 1) := by first | lia | omega
theorem om234 {v0 v1 : Nat} (h0 : v0 < v1) : v0 ≠ v1 := by first | exact Nat.ne_of_lt h0 | omega
theorem om235 {v0 v1 : Nat} (h0 : v0 ≤ v1) (h1 : 0 = (v1 - v0)) : v0 = v1 := by first | lia | omega
theorem om236 {v0 : Int} {v1 : Nat} (h0 : v0 = ((Nat.cast v1 : Int) - (1 : Int))) (h1 : 0 < v1) : v0 = (Nat.cast (v1 - 1) : Int) := by first | lia | omega
theorem om237 {v0 : Nat}  : (Nat.cast v0 : Int) = ((Nat.cast (v0 + 1) : Int) - (1 : Int)) := by first | lia | omega
theorem om238 {v0 : Nat}  : 0 < (v0 + 1) := by first | exact Nat.succ_pos _ | omega
theorem om239 {v0 v1 v2 : Nat} (h0 : v0 ≤ v1) (h1 : (v1 - v0) = (v2 + 1)) : ((v1 - 1) - v2) = v0 := by first | lia | omega
theorem om240 {v0 v1 v2 : Nat} (h0 : v0 ≤ v1) (h1 : ((v1 - 1) - v2) = v0) : ((v1 + 1) - (v0 + 1)) < ((v1 + 1) - v0) := by first | lia | omega
theorem om241 {v0 v1 v2 : Nat} (h0 : v0 ≤ v1) (h1 : (v1 - v0) = (v2 + 1)) (h2 : ((v1 - 1) - v2) = v0) : (v0 + 1) ≤ v1 := by first | lia | omega
theorem om242 {v0 v1 v2 : Nat} (h0 : v0 ≤ v1) (h1 : (v1 - v0) = (v2 + 1)) (h2 : ((v1 - 1) - v2) = v0) : (v1 - (v0 + 1)) = v2 := by first | lia | omega
theorem om243 {v0 v1 : Nat} (h0 : v0 ≤ v1) (h1 : (v1 - v0) = 0) : v0 = v1 := by first | lia | omega
theorem om244 {v0 v1 : Nat} (h0 : (v0 - v1) = 0) (h1 : v1 ≤ v0) : v1 = v0 := by first | lia | omega
theorem om245 {v0 v1 v5 v6 : Nat} {v2 v3 v4 v7 v8 v9 v10 v11 v12 v13 v14 : Prop} (h0 : (v0 - v0) = 0) (h1 : (v0 - v0) = (v1 + 1)) : v2 → (v3 → (v4 → ((v5 ≠ v6) → (v7 → (v8 → (v9 → (v10 → (v11 → (v12 → (v13 → v14)))))))))) := by first | lia | omega
theorem om246 {v0 v1 v2 : Nat} (h0 : (v0 - v1) = (v2 + 1)) (h1 : v1 ≤ v0) : v1 < v0 := by first | lia | omega
theorem om247 {v0 v1 v2 v3 : Nat} (h0 : (v0 - v1) = (v2 + 1)) (h1 : v1 < v0) (h2 : (v0 - v1) = (v3 + 1)) : (v0 - (v1 + 1)) = v2 := by first | lia | omega
theorem om248 {v0 v1 v2 : Nat} (h0 : v0 ≤ v1) (h1 : v2 < v0) : v2 ≤ v1 := by first | exact Nat.le_trans (Nat.le_of_lt h1) h0 | omega
theorem om249 {v0 v1 v2 : Nat} (h0 : v0 ≤ v1) (h1 : v2 < v0) : (v2 + 1) ≤ (v1 + 1) := by first | lia | omega
theorem om250 {v0 v1 v2 v3 : Nat} (h0 : (v0 - v1) = (v2 + 1)) (h1 : v1 < v0) (h2 : (v0 - v1) = (v3 + 1)) : (v0 - (v1 + 1)) = v3 := by first | lia | omega
theorem om251 {v0 v1 v2 v3 : Nat} (h0 : (v0 - v1) = (v2 + 1)) (h1 : v1 < v0) (h2 : (v0 - v1) = (v3 + 1)) : ((v0 - 1) - v3) = v1 := by first | lia | omega
theorem om252 {v0 v1 v2 : Nat} {v3 : Prop} (h0 : (v0 - v1) = (v2 + 1)) (h1 : (v0 - v1) = 0) : v3 := by first | lia | omega
theorem om253 {v0 : Nat}  : (v0 - 0) = v0 := by first | exact rfl | omega
theorem om254 {v0 : Nat} (h0 : 0 < v0) : (-(Nat.cast v0 : Int)) ≤ (-(1 : Int)) := by first | lia | omega
theorem om255 {v0 : Nat} (h0 : 0 < v0) : (Int.toNat ((-(1 : Int)) + (Nat.cast v0 : Int))) = (v0 - 1) := by first | lia | omega
theorem om256 {v0 : Nat} (h0 : v0 ≤ 1000) : v0 ≤ 16777216 := by first | exact Nat.le_trans h0 (by decide) | omega
theorem om257 {v0 : Nat} (h0 : 0 < v0) (h1 : v0 ≤ 1000) : v0 ≤ 16777216 := by first | exact Nat.le_trans h1 (by decide) | omega
theorem om258 {v0 : Int} {v1 : Nat} (h0 : (Int.toNat v0) < v1) (h1 : v1 ≤ 1000) : v0 < ((2 : Int) ^ 63) := by first | lia | omega
theorem om259 {v0 : Int} {v1 : Nat} (h0 : (0 : Int) ≤ v0) (h1 : (Int.toNat v0) < v1) (h2 : v1 ≤ 1000) : v0 < (Nat.cast v1 : Int) := by first | lia | omega
theorem om260 {v0 : Int} {v1 : Nat} (h0 : (0 : Int) ≤ v0) (h1 : (Int.toNat v0) ≤ v1) (h2 : v1 ≤ 1000) : ((-(9223372036854775808 : Int)) ≤ v0) ∧ (v0 < (9223372036854775808 : Int)) := by first | lia | omega
theorem om261 {v0 : Int} (h0 : (0 : Int) ≤ v0) : ¬ (v0 < (0 : Int)) := by first | lia | omega
theorem om262 {v0 : Nat}  : (max (0 : Int) (min ((-(2 : Int)) + (Nat.cast (v0 + (0 + 2)) : Int)) (Nat.cast (v0 + (0 + 2)) : Int))) = (Nat.cast v0 : Int) := by first | lia | omega
theorem om263 {v0 : Nat}  : ¬ ((Nat.cast v0 : Int) < (0 : Int)) := by first | lia | omega
theorem om264 {v0 v1 : Nat} (h0 : v0 ≤ v1) : (max (0 : Int) (min (Nat.cast v0 : Int) (Nat.cast v1 : Int))) = (Nat.cast v0 : Int) := by first | lia | omega
theorem om265 {v0 v1 : Nat} (h0 : (v0 + 24) < v1) : v0 < v1 := by first | exact Nat.lt_of_le_of_lt (Nat.le_add_right _ _) h0 | omega
theorem om266 {v0 v1 : Nat} (h0 : (v0 + 6) < v1) : (v0 + 4) < v1 := by first | exact Nat.lt_of_le_of_lt (Nat.add_le_add_left (by decide) _) h0 | omega
theorem om267 {v0 v1 : Nat} (h0 : (v0 + 48) < v1) : (v0 + 27) < v1 := by first | exact Nat.lt_of_le_of_lt (Nat.add_le_add_left (by decide) _) h0 | omega
theorem om268 {v0 v1 : Nat} (h0 : (v0 + 6) < v1) : (v0 + 6) < v1 := by first | exact h0 | omega
theorem om269 {v0 v1 : Nat} (h0 : (v0 + 48) < v1) : (v0 + 43) < v1 := by first | exact Nat.lt_of_le_of_lt (Nat.add_le_add_left (by decide) _) h0 | omega
theorem om270 {v0 : Nat}  : (0 : Int) ≤ (Nat.cast v0 : Int) := by first | exact Int.natCast_nonneg _ | omega
theorem om271 {v0 v1 v2 : Nat} (h0 : v0 ≤ 7) (h1 : v1 ≤ v0) (h2 : v2 = v0) : (Int.toNat (Nat.cast v1 : Int)) ≤ v2 := by first | (subst h2; exact h1) | omega
theorem om272 {v0 v1 : Nat} (h0 : v0 ≤ 7) (h1 : v1 = v0) : v1 ≤ 1000 := by first | lia | omega
theorem om273 {v0 v1 : Nat} (h0 : v0 < v1) : ((v1 + 1) - (v0 + 1)) < ((v1 + 1) - v0) := by first | lia | omega
theorem om274 {v0 v1 : Nat} (h0 : v0 < v1) : (v0 + 1) ≤ v1 := by first | exact h0 | omega
theorem om275 {v0 v1 : Nat} (h0 : v0 ≤ v1) (h1 : v0 ≥ v1) : v0 = v1 := by first | lia | omega
theorem om276 {v0 v1 v2 : Nat} (h0 : v0 = v1) (h1 : v2 < v0) : v2 < v1 := by first | (subst h0; exact h1) | omega
theorem om277 {v0 v1 v2 : Nat} (h0 : v0 ≤ 1000) (h1 : v1 = v0) (h2 : v2 < v0) : (Nat.cast v2 : Int) < (((2 : Int) ^ 63) - (1 : Int)) := by first | lia | omega
theorem om278 {v0 v1 v2 v3 : Nat} (h0 : v0 = v1) (h1 : v2 < v1) (h2 : v3 < v2) : v3 < v1 := by first | exact Nat.lt_trans h2 h1 | omega
theorem om279 {v0 v1 : Nat} (h0 : v0 < (v1 + 1)) : v0 ≤ v1 := by first | exact Nat.le_of_lt_succ h0 | omega
theorem om280 {v0 v1 v2 : Nat} (h0 : v0 ≤ v1) : v0 ≤ (v1 + v2) := by first | exact Nat.le_trans h0 (Nat.le_add_right _ _) | omega
theorem om281 {v0 : Nat} {v1 : Prop} (h0 : v0 < 0) : v1 := by first | lia | omega
theorem om282 {v0 v1 v2 : Nat} (h0 : v0 = 1) (h1 : v1 = 1) (h2 : ((v0 + v2) + v1) ≤ 500) : v2 ≤ 500 := by first | lia | omega
theorem om283 {v0 v1 v2 v3 : Nat} (h0 : v0 = 1) (h1 : v1 = 1) (h2 : (v2 + v1) ≤ 500) (h3 : (v0 + v3) ≤ v2) : v3 ≤ 500 := by first | lia | omega
theorem om284 {v0 v1 : Nat} (h0 : v0 = 1) (h1 : v1 ≤ 500) : (v0 + v1) ≤ 16777216 := by first | lia | omega
theorem om285 {v0 : Nat} (h0 : v0 ≤ 4) : v0 ≤ 1000 := by first | exact Nat.le_trans h0 (by decide) | omega
theorem om286 {v0 : Nat} (h0 : v0 ≤ 8) : v0 ≤ 1000 := by first | exact Nat.le_trans h0 (by decide) | omega
theorem om287 {v0 v1 v2 : Nat} (h0 : v0 = 1) (h1 : (v1 + v0) ≤ 500) (h2 : v2 ≤ v1) : v2 ≤ 499 := by first | lia | omega
theorem om288 {v0 : Nat} (h0 : (v0 + 1) ≤ 8) : v0 ≤ 8 := by first | exact Nat.le_of_lt h0 | omega
theorem om289 {v0 v1 v2 : Nat} (h0 : v0 ≤ v1) (h1 : v1 ≤ 7) (h2 : v2 < (v1 - v0)) : (v0 + v2) < 7 := by first | lia | omega
theorem om290 {v0 v1 : Nat}  : v0 ≤ (v0 + v1) := by first | exact Nat.le_add_right _ _ | omega
theorem om291 {v0 v1 v2 : Nat} (h0 : v0 ≤ v1) (h1 : v2 < (v1 - v0)) : (v0 + v2) < v1 := by first | lia | omega
theorem om292 {v0 v1 v2 : Nat} (h0 : v0 < (v1 - v2)) : (v0 + 1) ≤ (v1 - v2) := by first | exact h0 | omega
theorem om293 {v0 v1 : Nat} (h0 : (v0 + v1) ≤ 499) : (v0 + v1) ≤ 16777216 := by first | exact Nat.le_trans h0 (by decide) | omega
theorem om294 {v0 v1 : Nat} (h0 : v0 = 1) (h1 : (v1 + v0) ≤ 500) : (v1 + v0) ≤ 16777216 := by first | exact Nat.le_trans h1 (by decide) | omega
theorem om295 {v0 v1 v2 : Nat} (h0 : v0 = 1) (h1 : v1 = 1) (h2 : v2 ≤ 500) : ((v0 + v2) + v1) ≤ 16777216 := by first | lia | omega
theorem om296 {v0 v1 : Nat} (h0 : v0 ≤ v1) : (Nat.cast v0 : Int) ≤ (Nat.cast v1 : Int) := by first | lia | omega
theorem om297 {v0 v1 : Nat} (h0 : v0 ≤ v1) : (v1 - v0) ≤ (Int.toNat ((Nat.cast v1 : Int) - (Nat.cast v0 : Int))) := by first | lia | omega
theorem om298 {v0 v1 v2 : Nat}  : (v0 + ((v1 + (v2 + 1)) + 1)) = ((v0 + (v1 + 2)) + v2) := by first | lia | omega
theorem om299 {v0 v1 : Nat}  : (((v0 + 1) + v1) + 1) ≤ (v0 + (v1 + 2)) := by first | lia | omega
theorem om300 {v0 v1 v2 v3 v4 : Nat} (h0 : v0 = ((v1 + (v2 + 2)) + v3)) : (min (v1 + (v2 + 2)) v4) ≤ (((v1 + 1) + v2) + 1) := by first | lia | omega
theorem om301 {v0 v1 v2 v3 : Nat} (h0 : v0 = ((v1 + (v2 + 2)) + v3)) : v1 ≤ v0 := by first | lia | omega
theorem om302 {v0 v1 v2 v3 v4 : Nat} (h0 : v0 = ((v1 + (v2 + 2)) + v3)) : (min v1 v4) ≤ v1 := by first | lia | omega
theorem om303 {v0 v1 v2 v3 v4 : Nat} (h0 : v0 = ((v1 + (v2 + 2)) + v3)) (h1 : ¬ (v4 = v1)) : (Nat.cast v4 : Int) ≠ (Nat.cast v1 : Int) := by first | lia | omega
theorem om304 {v0 v1 : Nat} (h0 : (Nat.cast v0 : Int) < (Nat.cast v1 : Int)) : v0 ≤ v1 := by first | lia | omega
theorem om305 {v0 v1 : Nat} (h0 : ¬ ((Nat.cast v0 : Int) < (Nat.cast v1 : Int))) : v1 ≤ v0 := by first | lia | omega
theorem om306 {v0 : Nat}  : ¬ ((Nat.cast v0 : Int) ≠ (((Nat.cast v0 : Int) + (Nat.cast 1 : Int)) - (1 : Int))) := by first | lia | omega
theorem om307 {v0 : Nat}  : ¬ ((Nat.cast (v0 + 1) : Int) ≠ (((Nat.cast v0 : Int) + (Nat.cast 2 : Int)) - (1 : Int))) := by first | lia | omega
theorem om308 {v0 v1 : Nat}  : (((Nat.cast v0 : Int) + (1 : Int)) + (Nat.cast v1 : Int)) = ((Nat.cast v0 : Int) + ((Nat.cast v1 : Int) + (1 : Int))) := by first | lia | omega
theorem om309 {v0 : Nat}  : (((Nat.cast v0 : Int) + (2 : Int)) + (2 : Int)) = ((Nat.cast v0 : Int) + (4 : Int)) := by first | exact rfl | omega
theorem om310 {v0 v1 v2 : Nat}  : ((((Nat.cast v0 : Int) + (1 : Int)) + (Nat.cast v1 : Int)) + (Nat.cast v2 : Int)) = ((Nat.cast v0 : Int) + (((Nat.cast v1 : Int) + (Nat.cast v2 : Int)) + (1 : Int))) := by first | lia | omega
theorem om311 {v0 v1 : Nat} (h0 : (v0 + 1) ≤ (6 - v1)) : (v1 + v0) < 6 := by first | lia | omega
theorem om312 {v0 v1 : Nat} (h0 : (v0 + 1) ≤ (6 - v1)) : v0 ≤ (6 - v1) := by first | exact Nat.le_of_lt h0 | omega
theorem om313 {v0 v1 : Nat}  : (Int.toNat (((Nat.cast v0 : Int) + (1 : Int)) + (Nat.cast v1 : Int))) = ((v0 + v1) + 1) := by first | lia | omega
theorem om314 {v0 v1 v2 : Nat} (h0 : v0 = 6) (h1 : (v1 + v2) < 6) : (v1 + v2) < v0 := by first | (subst h0; exact h1) | omega
theorem om315 {v0 v1 : Nat} (h0 : v0 = v1) : (Nat.cast v0 : Int) = (Nat.cast v1 : Int) := by first | lia | omega
theorem om316 {v0 v1 : Nat} (h0 : ¬ (v0 = v1)) : ¬ ((Nat.cast v0 : Int) = (Nat.cast v1 : Int)) := by first | lia | omega
theorem om317 {v0 : Nat}  : (Int.toNat ((6 : Int) - (Nat.cast v0 : Int))) = (6 - v0) := by first | lia | omega
theorem om318 {v0 : Nat} (h0 : 0 < v0) : (0 : Int) < (Nat.cast v0 : Int) := by first | lia | omega
theorem om319 {v0 v1 v2 : Nat} (h0 : v0 ≤ (v1 * (v2 + 1))) : ((0 + 1) + v0) ≤ ((v1 * (v2 + 1)) + (v2 + 1)) := by first | lia | omega
theorem om320 {v0 v1 v2 v3 v4 : Nat} (h0 : v0 ≤ (v1 * (v2 + 1))) (h1 : (v3 + v4) ≤ v2) : (((v3 + 1) + v4) + v0) ≤ ((v1 * (v2 + 1)) + (v2 + 1)) := by first | lia | omega
theorem om321 {v0 v1 v2 v3 v4 : Nat} (h0 : 1 ≤ v0) (h1 : v0 < 7) (h2 : (v0 = 0) ∨ ((((1 ≤ v1) ∧ (v1 ≤ v0)) ∧ (v2 = v3)) ∧ (v4 ≠ 0))) : (1 ≤ v1) ∧ ((v1 ≤ v0) ∧ ((v2 = v3) ∧ (v4 ≠ 0))) := by first | lia | omega
theorem om322 {v0 v1 v2 v3 v4 : Nat} (h0 : v0 < 7) (h1 : 1 ≤ v0) (h2 : (v0 = 0) ∨ ((((1 ≤ v1) ∧ (v1 ≤ v0)) ∧ (v2 = v3)) ∧ (v4 ≠ 0))) : (v1 - 1) < 7 := by first | lia | omega
theorem om323 {v0 : Nat} (h0 : 1 ≤ 0) : 0 < v0 := by first | lia | omega
theorem om324 {v0 : Nat} (h0 : 1 ≤ 0) : v0 < 0 := by first | lia | omega
theorem om325 {v0 v1 : Nat} (h0 : v0 < v1) : v0 ≤ v1 := by first | exact Nat.le_of_lt h0 | omega
theorem om326 {v0 v1 : Nat} (h0 : v0 < v1) : (v1 - v0) = (((v1 - v0) - 1) + 1) := by first | lia | omega
theorem om327 {v0 v1 v2 : Nat} (h0 : (v0 + (v1 + 1)) ≤ v2) : v0 < v2 := by first | exact Nat.lt_of_le_of_lt (Nat.le_add_right _ _) h0 | omega
theorem om328 {v0 v1 : Nat} (h0 : v0 ≤ v1) : v0 < (v1 + 1) := by first | lia | omega
theorem om329 {v0 v1 : Nat}  : ((v0 + v1) + 1) = (v0 + (v1 + 1)) := by first | exact rfl | omega
theorem om330 {v0 v1 : Nat}  : ((v0 + v1) + 1) = ((v0 + 1) + v1) := by first | lia | omega
theorem om331 {v0 : Nat} {v1 : Prop} (h0 : v0 < v0) : v1 := by first | lia | omega
theorem om332 {v0 v1 v2 : Nat} (h0 : v0 < v1) (h1 : v1 < v2) : v0 < v2 := by first | exact Nat.lt_trans h0 h1 | omega
theorem om333 {v0 v1 : Nat} (h0 : v0 ≠ v1) (h1 : v0 ≥ v1) : v1 < v0 := by first | lia | omega
theorem om334 {v0 v1 : Nat} {v2 : Prop} (h0 : v0 < v1) (h1 : v1 < v0) : v2 := by first | lia | omega
theorem om335 {v0 v1 v2 v3 : Nat} (h0 : v0 = v1) (h1 : v0 < v1) : v2 = v3 := by first | lia | omega
theorem om336 {v0 v1 v2 v3 : Nat} (h0 : v0 = v1) (h1 : v1 < v0) : v2 = v3 := by first | exact absurd h0 (Nat.ne_of_gt h1) | omega
theorem om337 {v0 : Nat} (h0 : 1 ≤ v0) : ¬ (v0 = 0) := by first | exact Nat.ne_of_gt h0 | omega
theorem om338 {v0 v1 : Nat}  : 1 ≤ (((8 * v0) + v1) + 1) := by first | exact Nat.succ_pos _ | omega
theorem om339 {v0 v1 : Nat} (h0 : 1 ≤ v0) (h1 : v0 < 7) (h2 : v1 < v0) : v1 < 7 := by first | exact Nat.lt_trans h2 h1 | omega
theorem om340 {v0 v1 : Nat} {v2 : Prop} (h0 : ¬ (v0 = v1)) : (v0 < v1) ↔ ((v0 < v1) ∨ ((v0 = v1) ∧ v2)) := by first | lia | omega
theorem om341 {v0 v1 : Nat} {v2 v3 : Prop} (h0 : ¬ ((v0 < v1) ∨ ((v0 = v1) ∧ v2))) (h1 : ¬ ((v1 < v0) ∨ ((v1 = v0) ∧ v3))) : v0 = v1 := by first | lia | omega
theorem om342 {v0 : Nat} (h0 : v0 ≤ 0) : v0 = 0 := by first | lia | omega
theorem om343 {v0 v1 v2 : Nat} (h0 : v0 ≤ (v1 + 1)) (h1 : v2 < v0) : v2 ≤ v1 := by first | lia | omega
theorem om344 {v0 v1 : Nat} (h0 : v0 < 7) (h1 : v0 > 0) (h2 : v1 < v0) : v1 < 7 := by first | exact Nat.lt_trans h2 h0 | omega
theorem om345 {v0 : Nat} (h0 : v0 < 7) (h1 : v0 > 0) : ¬ (v0 = 0) := by first | exact Nat.ne_of_gt h1 | omega
theorem om346 {v0 v1 v2 v3 : Nat} (h0 : (((8 * v0) + v1) + 1) < (((8 * v2) + v3) + 1)) (h1 : v0 = v2) : v1 < v3 := by first | lia | omega
theorem om347 {v0 v1 v2 v3 : Nat} (h0 : (((8 * v0) + v1) + 1) < (((8 * v2) + v3) + 1)) (h1 : v1 < 7) (h2 : v3 < 7) (h3 : ¬ (v0 = v2)) : v0 < v2 := by first | lia | omega
theorem om348 {v0 : Nat} (h0 : 1 ≤ v0) (h1 : v0 < 7) : ¬ (v0 = 0) := by first | exact Nat.ne_of_gt h0 | omega
theorem om349 {v0 v1 v2 v3 : Nat} (h0 : (((8 * v0) + v1) + 1) = (((8 * v2) + v3) + 1)) (h1 : v1 < 7) (h2 : v3 < 7) : v1 = v3 := by first | lia | omega
theorem om350 {v0 v1 v2 : Nat} (h0 : v0 ≥ v1) (h1 : v2 < v1) : v2 < v0 := by first | exact Nat.le_trans h1 h0 | omega
theorem om351 {v0 v1 v2 v3 : Nat} (h0 : v0 < v1) (h1 : v1 ≤ v0) : v2 < v3 := by first | exact absurd h0 (Nat.not_lt_of_le h1) | omega
theorem om352 {v0 v1 v2 : Nat} (h0 : v0 < v1) (h1 : v2 < v0) : v2 < v1 := by first | exact Nat.lt_trans h1 h0 | omega
theorem om353 {v0 v1 v2 : Nat} (h0 : v0 < v1) (h1 : v2 = v0) : v2 < v1 := by first | (subst h1; exact h0) | omega
theorem om354 {v0 v1 : Nat} (h0 : v0 < v1) : ¬ (v0 = v1) := by first | exact Nat.ne_of_lt h0 | omega
theorem om355 {v0 v1 v2 : Nat} (h0 : v0 ≤ v1) (h1 : v2 < v0) : v2 < v1 := by first | exact Nat.le_trans h1 h0 | omega
theorem om356 {v0 v1 v2 : Nat} (h0 : v0 < v1) (h1 : v0 ≥ v2) : ((v0 - v2) + v2) < v1 := by first | lia | omega
theorem om357 {v0 v1 : Nat} (h0 : v0 ≥ v1) : (v1 + (v0 - v1)) = v0 := by first | lia | omega
theorem om358 {v0 v1 v2 : Nat} (h0 : v0 < v1) (h1 : v0 < v2) : v0 < (min v2 v1) := by first | lia | omega
theorem om359 {v0 : Nat} (h0 : (v0 + 1) ≤ 6) : v0 ≤ 6 := by first | exact Nat.le_of_lt h0 | omega
theorem om360 {v0 : Nat} (h0 : (v0 + 1) ≤ 6) : v0 < 6 := by first | exact h0 | omega
theorem om361 {v0 : Nat}  : 1 ≤ (v0 + 1) := by first | exact Nat.succ_pos _ | omega
theorem om362 {v0 : Int} {v1 v2 : Nat} (h0 : v0 = (Nat.cast (v1 + 1) : Int)) (h1 : v2 < v1) : (v2 + 1) ≤ v1 := by first | exact h1 | omega
theorem om363 {v0 : Nat} {v1 : Int} (h0 : (v0 + 1) ≤ 6) (h1 : v1 = (Nat.cast (v0 + 1) : Int)) : (v0 + 1) < 7 := by first | lia | omega
theorem om364 {v0 v2 : Nat} {v1 : Int} (h0 : (v0 + 1) ≤ 6) (h1 : v1 = (Nat.cast (v0 + 1) : Int)) (h2 : v2 ≤ v0) : v2 < 7 := by first | lia | omega
theorem om365 {v0 : Int} {v1 v2 : Nat} (h0 : v0 = (Nat.cast (v1 + 1) : Int)) (h1 : v2 ≤ v1) : v2 < (v1 + 1) := by first | lia | omega
theorem om366 {v0 : Nat} (h0 : v0 < 7) : v0 ≤ 6 := by first | exact Nat.le_of_lt_succ h0 | omega
theorem om367 {v0 : Int} (h0 : ((0 : Int) ≤ v0) ∧ (v0 < (7 : Int))) : (Int.toNat v0) < 7 := by first | lia | omega
theorem om368 {v0 v1 : Nat} (h0 : v0 < 7) (h1 : v1 ≤ v0) : v1 < 7 := by first | exact Nat.lt_of_le_of_lt h1 h0 | omega
theorem om369 {v0 v1 v2 : Nat} (h0 : v0 < v1) (h1 : v2 ≤ v0) (h2 : v0 < v2) : False := by first | exact absurd h2 (Nat.not_lt_of_le h1) | omega
theorem om370   : 6 ≤ 6 := by first | decide | omega
theorem om371 {v0 : Nat} (h0 : v0 < 6) : 1 ≤ (v0 + 1) := by first | exact Nat.succ_pos _ | omega
theorem om372 {v0 : Nat} (h0 : v0 < 6) : (v0 + 1) < 7 := by first | lia | omega
theorem om373   : 0 < 7 := by first | decide | omega
theorem om374 {v0 : Nat} (h0 : v0 < 7) : v0 < 7 := by first | exact h0 | omega
theorem om375 {v0 v1 : Nat} (h0 : v0 < 7) (h1 : v1 = 7) : v0 < v1 := by first | (subst h1; exact h0) | omega
theorem om376 {v0 v1 v2 : Nat} (h0 : v0 = 7) (h1 : v1 < v0) (h2 : v2 < v1) : v2 < v0 := by first | exact Nat.lt_trans h2 h1 | omega
theorem om377 {v0 v1 v2 : Nat} (h0 : v0 < v1) (h1 : ¬ (v0 < v2)) (h2 : v2 ≥ v0) : v2 = v0 := by first | lia | omega
theorem om378 {v0 v1 v2 v3 : Nat} (h0 : v0 ≤ v1) (h1 : v2 < (((8 * v3) + v0) + 1)) : v2 < (((8 * v3) + v1) + 1) := by first | lia | omega
theorem om379 {v0 : Nat} (h0 : v0 < 7) (h1 : 1 ≤ v0) : ¬ (v0 = 0) := by first | exact Nat.ne_of_gt h1 | omega
theorem om380 {v0 v1 v2 v3 v4 : Nat} (h0 : v0 ≤ 8) (h1 : (((8 * v1) + v2) + 1) < (((8 * v3) + v0) + 1)) (h2 : ¬ ((((8 * v1) + v2) + 1) < (((8 * v3) + v4) + 1))) (h3 : v2 < 7) : v1 = v3 := by first | lia | omega
theorem om381 {v0 v1 v2 v3 : Nat} (h0 : ¬ ((((8 * v0) + v1) + 1) < (((8 * v2) + v3) + 1))) (h1 : v0 = v2) : v3 ≤ v1 := by first | lia | omega
theorem om382 {v0 v1 v2 v3 : Nat} (h0 : v0 < v1) (h1 : (v2 < v3) ↔ (v0 < v0)) : v3 ≤ v2 := by first | lia | omega
theorem om383 {v0 v1 v2 : Nat} (h0 : v0 < v1) (h1 : v2 < 7) : v2 ≤ 8 := by first | exact Nat.le_trans (Nat.le_of_lt h1) (by decide) | omega
theorem om384 {v0 v1 v2 v3 v4 : Nat} (h0 : v0 < v1) (h1 : v2 < v1) (h2 : v3 ≤ v4) (h3 : (v4 < v3) ↔ (v2 < v0)) : v0 ≤ v2 := by first | lia | omega
theorem om385 {v0 v1 v2 v3 v4 : Nat} (h0 : v0 < v1) (h1 : v2 < v1) (h2 : v3 < v4) (h3 : v4 < v3) : False := by first | lia | omega
theorem om386 {v0 v1 v2 v3 : Nat} (h0 : v0 < v1) (h1 : v2 ≤ v3) (h2 : (v3 < v2) ↔ (v0 < v1)) : False := by first | lia | omega
theorem om387 {v0 v1 : Nat} (h0 : v0 < 1) (h1 : 1 ≤ v0) : v1 = 0 := by first | exact absurd h0 (Nat.not_lt_of_le h1) | omega
theorem om388   : 0 ≤ 8 := by first | decide | omega
theorem om389 {v0 v1 v2 : Nat} (h0 : v0 < v1) (h1 : v2 ≤ v1) (h2 : v2 < v0) : v2 < v1 := by first | exact Nat.lt_trans h2 h0 | omega
theorem om390 {v0 v1 : Nat} (h0 : v0 < v0) : v0 = v1 := by first | lia | omega
theorem om391 {v0 v1 v2 v3 : Nat} (h0 : v0 < v1) (h1 : v2 < v2) : v3 = v0 := by first | lia | omega
theorem om392 {v0 v1 v2 : Nat} (h0 : v0 < v1) : v2 < (v2 + 1) := by first | exact Nat.lt_add_of_pos_right (by decide) | omega
theorem om393 {v0 v1 : Nat} (h0 : v0 < v1) (h1 : v1 < (v0 + 2)) : v1 = (v0 + 1) := by first | lia | omega
theorem om394 {v0 v1 v2 : Nat} (h0 : v0 < v1) (h1 : v2 ≤ v1) (h2 : v2 ≥ (v0 + 2)) : (v0 + 1) < v1 := by first | exact Nat.le_trans h2 h1 | omega
theorem om395 {v0 v1 : Nat} (h0 : v0 ≥ (v1 + 2)) : (v1 + 1) < v0 := by first | exact h0 | omega
theorem om396 {v0 v1 : Nat} (h0 : v0 < v1) (h1 : (v0 + 1) < v1) : v0 < (v0 + 1) := by first | exact Nat.lt_add_of_pos_right (by decide) | omega
theorem om397 {v0 v1 v2 v3 v4 : Nat} (h0 : v0 < v1) (h1 : (v0 + 1) < v1) (h2 : v2 < (v3 + 1)) (h3 : v3 < v2) : v4 = (v0 + 1) := by first | exact absurd h2 (Nat.not_lt_of_le h3) | omega
theorem om398 {v0 v1 v2 v3 v4 v5 : Nat} (h0 : v0 ≤ v1) (h1 : v1 < v2) (h2 : (v1 < v0) ↔ (v3 < (((8 * v4) + v5) + 1))) (h3 : (v1 < v2) ↔ (v3 < (((8 * v4) + v5) + 2))) : v3 = (((8 * v4) + v5) + 1) := by first | lia | omega
theorem om399 {v0 v1 v2 v3 : Nat} (h0 : v0 < 7) (h1 : (((8 * v1) + v2) + 1) = (((8 * v3) + v0) + 1)) (h2 : v2 < 7) : v2 = v0 := by first | lia | omega
theorem om400 {v0 v1 v2 v3 v4 v5 : Nat} (h0 : v0 = (((8 * v1) + v2) + 1)) (h1 : (v3 < v4) ↔ (v0 < (((8 * v1) + v2) + 1))) (h2 : (v3 < v5) ↔ (v0 < (((8 * v1) + v2) + 2))) : (v4 ≤ v3) ∧ (v3 < v5) := by first | lia | omega
theorem om401 {v0 v1 : Nat} (h0 : v0 < 7) (h1 : v1 < v0) : v1 < 7 := by first | exact Nat.lt_trans h1 h0 | omega
theorem om402 {v0 v1 v2 : Nat} (h0 : (1 ≤ v0) ∧ (v1 = v2)) : ¬ (v0 = 0) := by first | lia | omega
theorem om403 {v0 v1 v2 : Nat} (h0 : (v0 ≤ v1) ∧ (v1 < v2)) : v0 < v2 := by first | lia | omega
theorem om404 {v0 v1 : Nat} (h0 : v0 ≤ 7) (h1 : (v1 + 1) < v0) : v1 < 7 := by first | exact Nat.le_trans (Nat.le_of_lt h1) h0 | omega
theorem om405 {v0 v1 : Nat} (h0 : v0 ≤ 7) (h1 : (v1 + 1) < v0) : (v1 + 1) < 7 := by first | exact Nat.le_trans h1 h0 | omega
theorem om406 {v0 : Nat}  : v0 < (v0 + 1) := by first | exact Nat.lt_add_of_pos_right (by decide) | omega
theorem om407 {v0 v1 v2 : Nat} (h0 : v0 ≤ 7) (h1 : (v1 ≤ v2) ∧ (v2 < v0)) : (v0 - 1) < 7 := by first | lia | omega
theorem om408 {v0 v1 v2 : Nat} (h0 : v0 ≤ 7) (h1 : (v1 ≤ v2) ∧ (v2 < v0)) : v1 ≤ (v0 - 1) := by first | lia | omega
theorem om409 {v0 v1 v2 : Nat} (h0 : v0 ≤ 7) (h1 : (v1 ≤ v2) ∧ (v2 < v0)) : (v0 - 1) < v0 := by first | lia | omega
theorem om410 {v0 v1 v2 v3 : Nat} (h0 : (1 ≤ v0) ∧ (v1 = v2)) (h1 : v0 < v3) (h2 : v3 < 7) : 1 ≤ v3 := by first | lia | omega
theorem om411 {v0 v1 v2 v3 : Nat} (h0 : v0 ≤ 7) (h1 : (v1 ≤ v2) ∧ (v2 < v0)) (h2 : (v1 ≤ v3) ∧ (v3 < v0)) (h3 : (v0 - 1) < v3) : False := by first | lia | omega
theorem om412 {v0 : Nat} (h0 : v0 < 4) : 0 < ((8 * v0) + 1) := by first | exact Nat.succ_pos _ | omega
theorem om413 {v0 : Nat} {v1 : Prop} (h0 : v0 < 4) (h1 : ¬ (0 < ((8 * (v0 + 1)) + 1))) : v1 := by first | lia | omega
theorem om414 {v0 v1 v2 v3 : Nat} (h0 : v0 < 7) (h1 : v1 = (((8 * v2) + v0) + 1)) (h2 : v2 < v3) : (((8 * v2) + v0) + 1) < ((8 * v3) + 1) := by first | lia | omega
theorem om415 {v0 v1 v2 v3 : Nat} {v4 : Prop} (h0 : v0 < 7) (h1 : v1 = (((8 * v2) + v0) + 1)) (h2 : v2 < v3) (h3 : ¬ ((((8 * v2) + v0) + 1) < ((8 * (v3 + 1)) + 1))) : v4 := by first | lia | omega
theorem om416 {v0 v1 v2 v3 : Nat} {v4 : Prop} (h0 : v0 < 7) (h1 : v1 = (((8 * v2) + v0) + 1)) (h2 : (((8 * v3) + v0) + 1) < ((8 * v3) + 1)) : v4 := by first | lia | omega
theorem om417 {v0 v1 v2 v3 : Nat} {v4 : Prop} (h0 : v0 < 7) (h1 : v1 = (((8 * v2) + v0) + 1)) (h2 : ¬ ((((8 * v3) + v0) + 1) < ((8 * (v3 + 1)) + 1))) : v4 := by first | lia | omega
theorem om418 {v0 v1 v2 v3 : Nat} {v4 : Prop} (h0 : v0 < 7) (h1 : v1 = (((8 * v2) + v0) + 1)) (h2 : v3 < v2) (h3 : (((8 * v2) + v0) + 1) < ((8 * v3) + 1)) : v4 := by first | lia | omega
theorem om419 {v0 v1 v2 v3 : Nat} (h0 : v0 < 7) (h1 : v1 = (((8 * v2) + v0) + 1)) (h2 : v3 < v2) : ¬ ((((8 * v2) + v0) + 1) < ((8 * (v3 + 1)) + 1)) := by first | lia | omega
theorem om420 {v0 v1 : Nat} (h0 : v0 < 4) (h1 : v1 ≤ 7) : 0 < (((8 * v0) + v1) + 1) := by first | exact Nat.succ_pos _ | omega
theorem om421 {v0 v1 : Nat} {v2 : Prop} (h0 : v0 < 4) (h1 : v1 ≤ 7) (h2 : ¬ (0 < (((8 * v0) + v1) + 1))) : v2 := by first | lia | omega
theorem om422 {v0 v1 v2 v3 v4 : Nat} (h0 : v0 ≤ 7) (h1 : v1 < 7) (h2 : v2 = (((8 * v3) + v1) + 1)) (h3 : v3 < v4) : (((8 * v3) + v1) + 1) < (((8 * v4) + v0) + 1) := by first | lia | omega
theorem om423 {v0 v1 v2 v3 v4 : Nat} {v5 : Prop} (h0 : v0 ≤ 7) (h1 : v1 < 7) (h2 : v2 = (((8 * v3) + v1) + 1)) (h3 : v3 < v4) (h4 : ¬ ((((8 * v3) + v1) + 1) < (((8 * v4) + v0) + 1))) : v5 := by first | lia | omega
theorem om424 {v0 v1 v2 v3 v4 v5 : Nat} (h0 : v0 = (((8 * v1) + v2) + 1)) : ((v2 < v3) ↔ ((((8 * v4) + v2) + 1) < (((8 * v4) + v3) + 1))) ∧ ((¬ (v2 < v5)) ↔ (¬ ((((8 * v4) + v2) + 1) < (((8 * v4) + v5) + 1)))) := by first | lia | omega
theorem om425 {v0 v1 v2 v3 v4 : Nat} {v5 : Prop} (h0 : v0 ≤ 7) (h1 : v1 < 7) (h2 : v2 = (((8 * v3) + v1) + 1)) (h3 : v4 < v3) (h4 : (((8 * v3) + v1) + 1) < (((8 * v4) + v0) + 1)) : v5 := by first | lia | omega
theorem om426 {v0 v1 v2 v3 v4 : Nat} (h0 : v0 ≤ 7) (h1 : v1 < 7) (h2 : v2 = (((8 * v3) + v1) + 1)) (h3 : v4 < v3) : ¬ ((((8 * v3) + v1) + 1) < (((8 * v4) + v0) + 1)) := by first | lia | omega
theorem om427 {v0 v1 v2 : Nat} (h0 : v0 < v1) (h1 : v2 = v0) (h2 : v2 = v1) : False := by first | lia | omega
theorem om428 {v0 v1 : Nat}  : (v0 ≤ v1) ↔ (¬ (v1 < v0)) := by first | lia | omega
theorem om429 {v0 v1 v2 v3 v4 v5 : Nat} (h0 : v0 ≤ 7) (h1 : v1 ≤ 7) (h2 : v2 < 7) (h3 : v3 = (((8 * v4) + v2) + 1)) (h4 : ¬ ((((8 * v4) + v2) + 1) < (((8 * v5) + v0) + 1))) (h5 : (((8 * v4) + v2) + 1) < (((8 * v5) + v1) + 1)) : v4 = v5 := by first | lia | omega
theorem om430 {v0 v1 v2 v3 v4 v5 v6 v7 v8 v9 : Nat} {v10 : Prop} (h0 : v0 < 7) (h1 : v0 > 0) (h2 : v1 = (((8 * v2) + v3) + 1)) (h3 : (v3 < v4) ↔ (0 < ((8 * v5) + 1))) (h4 : (v3 < v6) ↔ (0 < ((8 * (v5 + 1)) + 1))) (h5 : ¬ ((((8 * v2) + v3) + 1) < (((8 * v7) + v4) + 1))) (h6 : (((8 * v2) + v3) + 1) < (((8 * v7) + v6) + 1)) (h7 : v2 = v7) : ((((v0 ≠ 0) ∧ (v8 ≠ 0)) ∧ (v2 = v7)) ∧ (v9 = v5)) ∧ v10 := by first | lia | omega
theorem om431 {v0 : Nat} (h0 : v0 < 7) (h1 : v0 > 0) : v0 ≠ 0 := by first | exact Nat.ne_of_gt h1 | omega
theorem om432 {v0 v1 v2 v3 v4 v5 v6 v7 v8 v9 : Nat} (h0 : v0 = (((8 * v1) + v2) + 1)) (h1 : (v2 < v3) ↔ ((((8 * v4) + v5) + 1) < ((8 * v6) + 1))) (h2 : (v2 < v7) ↔ ((((8 * v4) + v5) + 1) < ((8 * (v6 + 1)) + 1))) (h3 : v5 < 7) (h4 : v8 = (((8 * v4) + v5) + 1)) (h5 : ¬ ((((8 * v1) + v2) + 1) < (((8 * v9) + v3) + 1))) (h6 : (((8 * v1) + v2) + 1) < (((8 * v9) + v7) + 1)) (h7 : v1 = v9) : v4 = v6 := by first | lia | omega
theorem om433 {v0 v1 v2 v3 v4 v5 v6 v7 v8 v9 v10 v11 : Nat} (h0 : v0 < 7) (h1 : v0 > 0) (h2 : v1 < 7) (h3 : v2 = (((8 * v3) + v4) + 1)) (h4 : (v4 < v5) ↔ ((((8 * v6) + v7) + 1) < ((8 * v8) + 1))) (h5 : (v4 < v9) ↔ ((((8 * v6) + v7) + 1) < ((8 * (v8 + 1)) + 1))) (h6 : v1 > 0) (h7 : v7 < 7) (h8 : v10 = (((8 * v6) + v7) + 1)) (h9 : v6 = v8) (h10 : v3 = v11) (h11 : v0 ≠ 0) (h12 : v1 ≠ 0) : ¬ ((((8 * v3) + v4) + 1) < (((8 * v11) + v5) + 1)) := by first | lia | omega
theorem om434 {v0 v1 v2 v3 v4 v5 v6 v7 v8 v9 v10 : Nat} (h0 : v0 < 7) (h1 : v0 > 0) (h2 : v1 < 7) (h3 : v2 = (((8 * v3) + v4) + 1)) (h4 : (v4 < v5) ↔ ((((8 * v6) + v7) + 1) < ((8 * (v8 + 1)) + 1))) (h5 : v1 > 0) (h6 : v7 < 7) (h7 : v9 = (((8 * v6) + v7) + 1)) (h8 : v6 = v8) (h9 : v3 = v10) (h10 : v0 ≠ 0) (h11 : v1 ≠ 0) : (((8 * v3) + v4) + 1) < (((8 * v10) + v5) + 1) := by first | lia | omega
theorem om435 {v0 : Nat} {v1 : Prop} (h0 : v0 < 7) (h1 : (7 - v0) ≤ 0) : v1 := by first | lia | omega
theorem om436 {v0 v1 : Nat} (h0 : v0 < 7) (h1 : v1 < (6 - v0)) : ((v0 + 1) + v1) < 7 := by first | lia | omega
theorem om437 {v0 v1 v2 : Nat} (h0 : v0 < 7) (h1 : (7 - v0) ≤ (v1 + 1)) : (7 - ((v0 + 1) + v2)) ≤ v1 := by first | lia | omega
theorem om438 {v0 : Nat}  : ((0 + 1) + v0) ≤ (v0 + 1) := by first | lia | omega
theorem om439 {v0 v1 : Nat}  : v0 < ((v0 + 1) + v1) := by first | exact Nat.le_add_right _ _ | omega
theorem om440 {v0 v1 : Nat} (h0 : (v0 + 1) ≤ (6 - v1)) (h1 : v1 < 7) : ((v1 + 1) + v0) < 7 := by first | lia | omega
theorem om441 {v0 v1 : Nat} (h0 : (v0 + 1) ≤ (6 - v1)) (h1 : v1 < 7) : ((7 - v1) - v0) = (((7 - v1) - (v0 + 1)) + 1) := by first | lia | omega
theorem om442 {v0 v1 : Nat}  : (7 - ((v0 + 1) + v1)) = ((7 - v0) - (v1 + 1)) := by first | lia | omega
theorem om443 {v0 v1 v2 v3 : Nat} (h0 : (v0 + (v1 * 2)) ≤ (v2 + 1)) (h1 : v3 ≤ v1) : ((v0 + v3) + v1) ≤ (v2 + 1) := by first | lia | omega
theorem om444 {v0 v1 v2 : Nat} (h0 : (v0 + (v1 * 2)) ≤ (v2 + 1)) : (v0 + v1) ≤ (v2 + 1) := by first | lia | omega
theorem om445 {v0 : Nat} (h0 : v0 < 7) : ((7 - v0) - (6 - v0)) = 1 := by first | lia | omega
theorem om446 {v0 v1 : Nat} (h0 : (v0 + (2 ^ 1)) ≤ (v1 + 1)) : (v0 + 1) ≤ v1 := by first | exact Nat.le_of_lt_succ h0 | omega
theorem om447 {v0 v1 v2 : Nat} (h0 : v0 < v1) : ((v2 + 1) + v0) < ((v2 + 1) + v1) := by first | lia | omega
theorem om448 {v0 v1 : Nat} (h0 : v0 < 7) : 1 ≤ ((v0 + 1) + v1) := by first | lia | omega
theorem om449 {v0 v1 : Nat} (h0 : v0 < 7) : (((v0 + 1) + v1) - 1) = (v0 + v1) := by first | lia | omega
theorem om450 {v0 v1 v2 : Nat} (h0 : v0 < 7) (h1 : v1 < 7) (h2 : 1 ≤ v1) (h3 : v2 = v0) (h4 : v2 < v1) : ((v1 - 1) - v0) < (6 - v0) := by first | lia | omega
theorem om451 {v0 v1 v2 : Nat} (h0 : v0 = v1) (h1 : v0 < v2) : ((v1 + 1) + ((v2 - 1) - v1)) = v2 := by first | lia | omega
theorem om452 {v0 v1 v2 v3 : Nat} (h0 : v0 < 7) (h1 : 1 ≤ v0) (h2 : v1 = v2) (h3 : v1 < v0) (h4 : v3 = v1) : (v2 + ((v0 - 1) - v2)) = (v0 - 1) := by first | lia | omega
theorem om453 {v0 v1 v2 : Nat} (h0 : 6 ≤ v0) (h1 : v1 < 7) : (7 - ((v1 + 1) + v2)) ≤ v0 := by first | lia | omega
theorem om454 {v0 v1 v2 : Nat} (h0 : 6 ≤ v0) (h1 : v1 < 7) : (7 - ((v1 + 1) + v2)) ≤ (v0 + 1) := by first | lia | omega
theorem om455 {v0 v1 v2 : Nat} (h0 : v0 ≤ 7) (h1 : v1 < (v0 - v2)) : (v2 + v1) < 7 := by first | lia | omega
theorem om456 {v0 v1 v2 : Nat} (h0 : v0 < (v1 - v2)) : (v2 + v0) < v1 := by first | lia | omega
theorem om457 {v0 v1 v2 : Nat} (h0 : v0 < v1) : (v2 + v0) < (v2 + v1) := by first | lia | omega
theorem om458 {v0 v1 v2 : Nat} (h0 : (v0 ≤ v1) ∧ (v1 < v2)) : (v1 - v0) < (v2 - v0) := by first | lia | omega
theorem om459 {v0 v1 v2 : Nat} (h0 : (v0 ≤ v1) ∧ (v1 < v2)) : (v0 + (v1 - v0)) = v1 := by first | lia | omega
theorem om460 {v0 v1 : Nat} (h0 : v0 < v1) (h1 : v1 ≤ (v0 + 10)) (h2 : (v1 < (v0 + 1)) ∨ ((v0 + 10) < v1)) : False := by first | lia | omega
theorem om462 {v0 v1 v2 : Nat} (h0 : v0 = (v1 + 2)) (h1 : v2 < v1) : v2 < (min v1 v0) := by first | lia | omega
theorem om463 {v0 v1 v2 : Nat} (h0 : v0 = (v1 + 2)) (h1 : v2 ≥ v1) : (min v1 v0) ≤ v2 := by first | lia | omega
theorem om464 {v0 v1 : Nat} (h0 : v0 = (v1 + 2)) : v1 ≤ v0 := by first | lia | omega
theorem om465 {v0 v1 : Nat} (h0 : v0 ≥ v1) : (v0 = v1) ∨ ((v0 = (v1 + 1)) ∨ ((v1 + 2) ≤ v0)) := by first | lia | omega
theorem om466 {v0 : Nat}  : ((v0 + 1) - v0) = 1 := by first | lia | omega
theorem om467 {v0 v1 v2 : Nat} (h0 : v0 = (v1 + 2)) (h1 : (v1 + 2) ≤ v2) : v0 ≤ v2 := by first | (subst h0; exact h1) | omega
theorem om468 {v0 v1 : Nat} (h0 : (v0 + 2) ≤ v1) : 2 ≤ (v1 - v0) := by first | lia | omega
theorem om469 {v0 v1 : Nat} (h0 : v0 < (v1 + 1)) : (v1 + 10) ≠ v0 := by first | lia | omega
theorem om470 {v0 v1 : Nat} (h0 : v0 < (v1 + 1)) : (v1 + 9) ≠ v0 := by first | lia | omega
theorem om471 {v0 v1 : Nat} (h0 : v0 < (v1 + 1)) : (v1 + 8) ≠ v0 := by first | lia | omega
theorem om472 {v0 v1 : Nat} (h0 : v0 < (v1 + 1)) : (v1 + 7) ≠ v0 := by first | lia | omega
theorem om473 {v0 v1 : Nat} (h0 : v0 < (v1 + 1)) : (v1 + 6) ≠ v0 := by first | lia | omega
theorem om474 {v0 v1 : Nat} (h0 : v0 < (v1 + 1)) : (v1 + 5) ≠ v0 := by first | lia | omega
theorem om475 {v0 v1 : Nat} (h0 : v0 < (v1 + 1)) : (v1 + 4) ≠ v0 := by first | lia | omega
theorem om476 {v0 v1 : Nat} (h0 : v0 < (v1 + 1)) : (v1 + 3) ≠ v0 := by first | lia | omega
theorem om477 {v0 v1 : Nat} (h0 : v0 < (v1 + 1)) : (v1 + 2) ≠ v0 := by first | lia | omega
theorem om478 {v0 v1 : Nat} (h0 : v0 < (v1 + 1)) : (v1 + 1) ≠ v0 := by first | exact Nat.ne_of_gt h0 | omega
theorem om480 {v0 v1 : Nat} (h0 : v0 < v1) : (Nat.cast v0 : Int) < (Nat.cast v1 : Int) := by first | lia | omega
theorem om481 {v0 v1 : Nat} (h0 : v0 < v1) (h1 : v1 ≤ 100) : (Nat.cast v0 : Int) < ((2 : Int) ^ 63) := by first | lia | omega
theorem om482 {v0 : Nat} (h0 : v0 ≤ 100) : (0 : Int) ≤ (Nat.cast v0 : Int) := by first | exact Int.natCast_nonneg _ | omega
theorem om483 {v0 : Nat} (h0 : v0 ≤ 100) : (Nat.cast v0 : Int) < ((2 : Int) ^ 63) := by first | lia | omega
theorem om484 {v0 v1 v2 : Nat} (h0 : v0 < v1) (h1 : v2 < 7) : (v2 + 1) ≤ 8 := by first | exact Nat.le_trans h1 (by decide) | omega
theorem om485 {v0 v1 v2 v3 : Nat} (h0 : v0 < 7) (h1 : v1 < v2) (h2 : v3 = v0) : v0 ≤ 8 := by first | exact Nat.le_trans (Nat.le_of_lt h0) (by decide) | omega
theorem om486 {v0 v1 v2 v3 : Nat} (h0 : v0 < 7) (h1 : v1 < v2) (h2 : v3 = v0) : (v0 + 1) ≤ 8 := by first | exact Nat.le_trans h0 (by decide) | omega
theorem om487 {v0 v1 v2 v3 : Nat} (h0 : v0 < v1) : (((8 * v2) + (v3 + 1)) + 1) = (((8 * v2) + v3) + 2) := by first | exact rfl | omega
theorem om488 {v0 v1 v2 v3 : Nat} (h0 : v0 < v1) (h1 : v2 < v3) (h2 : v2 = v3) : False := by first | lia | omega
theorem om489 {v0 v1 v2 v3 v4 v5 : Nat} (h0 : v0 < v1) (h1 : v2 = v0) (h2 : v3 = (v0 + 1)) (h3 : v4 = (v1 + 1)) (h4 : v5 < v0) : v5 < v1 := by first | lia | omega
theorem om490 {v0 v1 v2 v3 v4 v5 : Nat} (h0 : v0 < v1) (h1 : v2 = v3) (h2 : v4 < v1) (h3 : (Nat.cast v5 : Int) = (Nat.cast v3 : Int)) (h4 : v5 < v2) : False := by first | lia | omega
theorem om491 {v0 v1 v2 : Nat} (h0 : v0 < v1) (h1 : v1 ≤ 7) (h2 : v2 = (v1 + 1)) : v1 ≤ 8 := by first | exact Nat.le_trans h1 (by decide) | omega
theorem om492 {v0 v1 v2 : Nat} (h0 : v0 < v1) (h1 : v1 ≤ 7) (h2 : v2 = (v1 + 1)) : v2 ≤ 8 := by first | lia | omega
theorem om493 {v0 v1 v2 v3 : Nat} (h0 : v0 < v1) (h1 : v2 ≤ 7) (h2 : v3 < v2) : v3 < 7 := by first | exact Nat.le_trans h2 h1 | omega
theorem om494 {v0 v1 v2 v3 v4 : Nat} (h0 : v0 < v1) (h1 : (1 ≤ v2) ∧ (v3 = v4)) (h2 : v2 < 7) (h3 : v4 < v2) : (6 - v2) < (6 - v4) := by first | lia | omega
theorem om495 {v0 : Nat}  : (0 : Int) < ((1 : Int) + (Nat.cast v0 : Int)) := by first | lia | omega
theorem om496 {v0 : Int} {v1 : Nat} (h0 : (0 : Int) ≤ v0) (h1 : v0 < ((1 : Int) + (Nat.cast v1 : Int))) : ((0 : Int) ≤ v0) ∧ ((Int.toNat v0) < (1 + v1)) := by first | lia | omega
theorem om497 {v0 : Int} (h0 : (0 : Int) ≤ v0) : v0 = (Nat.cast (Int.toNat v0) : Int) := by first | lia | omega
theorem om498 {v0 : Nat} (h0 : v0 < (1 + 0)) : v0 = 0 := by first | lia | omega
theorem om499 {v0 : Nat} (h0 : v0 < (1 + 1)) : v0 < 2 := by first | exact h0 | omega
theorem om500 {v0 : Nat} (h0 : v0 < (1 + 2)) : v0 < 3 := by first | exact h0 | omega
theorem om501 {v0 : Nat} (h0 : v0 < (1 + 3)) : v0 < 4 := by first | exact h0 | omega
theorem om502 {v0 : Nat} (h0 : v0 < (1 + 4)) : v0 < 5 := by first | exact h0 | omega
theorem om503 {v0 : Nat} (h0 : v0 < (1 + 5)) : v0 < 6 := by first | exact h0 | omega
theorem om504 {v0 : Int} (h0 : (0 : Int) ≤ v0) (h1 : v0 < (4 : Int)) : (v0 = (0 : Int)) ∨ ((v0 = (1 : Int)) ∨ ((v0 = (2 : Int)) ∨ (v0 = (3 : Int)))) := by first | lia | omega
theorem om505 {v0 v1 : Nat} (h0 : v0 < v1) (h1 : v1 < 4) : v0 < 4 := by first | exact Nat.lt_trans h0 h1 | omega
theorem om506 {v0 : Nat}  : 4 ≤ (v0 + 4) := by first | lia | omega
theorem om507 {v0 v1 : Nat} (h0 : v0 ≤ v1) : (max (0 : Int) (min (Nat.cast v1 : Int) (Nat.cast v0 : Int))) = (max (0 : Int) (min (Nat.cast v0 : Int) (Nat.cast v0 : Int))) := by first | lia | omega
theorem om508 {v0 : Nat}  : v0 ≤ v0 := by first | lia | omega
theorem om509 {v0 v1 v2 : Nat} (h0 : v0 < 0) : v1 = v2 := by first | lia | omega
theorem om510 {v0 v1 v2 v3 v4 v5 v6 : Nat} (h0 : v0 < (v1 + 1)) (h1 : (1 ≤ (v2 + 1)) ∧ (((v2 + 1) ≤ v0) ∧ ((v3 = v4) ∧ (v5 ≠ 0)))) (h2 : v6 = (v2 + 1)) : v2 < v1 := by first | lia | omega
theorem om511 {v0 v1 v2 v3 v4 v5 : Nat} (h0 : v0 < 7) (h1 : v0 > 0) (h2 : (1 ≤ (v1 + 1)) ∧ (((v1 + 1) ≤ v0) ∧ ((v2 = v3) ∧ (v4 ≠ 0)))) (h3 : v5 = (v1 + 1)) : v1 < 7 := by first | lia | omega
theorem om512 {v0 v1 v2 v3 v4 v5 : Nat} (h0 : (1 ≤ 0) ∧ ((0 ≤ v0) ∧ ((v1 = v2) ∧ (v3 ≠ 0)))) : v4 = (v5 + 1) := by first | lia | omega
theorem om513 {v0 v1 v2 v3 v4 v5 : Nat} (h0 : (1 ≤ (v0 + 1)) ∧ (((v0 + 1) ≤ v1) ∧ ((v2 = v3) ∧ (v4 ≠ 0)))) (h1 : v5 = (v0 + 1)) : v0 < v1 := by first | lia | omega
theorem om514 {v0 v1 v2 v3 v4 v5 : Nat} (h0 : 1 ≤ v0) (h1 : v0 < 7) (h2 : (1 ≤ (v1 + 1)) ∧ (((v1 + 1) ≤ v0) ∧ ((v2 = v3) ∧ (v4 ≠ 0)))) (h3 : v5 = (v1 + 1)) : v1 < 7 := by first | lia | omega
theorem om515 {v0 v1 : Nat} (h0 : v0 < 7) (h1 : v1 = (v0 + 1)) : (v1 - 1) = v0 := by first | lia | omega
theorem om516 {v0 : Nat} (h0 : v0 < 7) (h1 : 0 = (v0 + 1)) : 1 ≤ 0 := by first | lia | omega
theorem om517 {v0 v1 v2 v3 v4 v5 : Nat} (h0 : (v0 - 1) = v1) (h1 : (1 ≤ v0) ∧ ((v0 ≤ v2) ∧ ((v3 = v4) ∧ (v5 ≠ 0)))) : v0 = (v1 + 1) := by first | lia | omega
theorem om518 {v0 v1 v2 v3 v4 v5 : Nat} (h0 : (1 ≤ v0) ∧ ((v0 ≤ v1) ∧ ((v2 = v3) ∧ (v4 ≠ 0)))) (h1 : v1 < v5) (h2 : v5 < 7) : 1 ≤ v5 := by first | lia | omega
theorem om519 {v0 v1 v2 v3 v4 v5 v6 v7 v8 v9 : Nat} (h0 : (1 ≤ v0) ∧ ((v0 ≤ v1) ∧ ((v2 = v3) ∧ (v4 ≠ 0)))) (h1 : (v5 - 1) = (v0 - 1)) (h2 : (1 ≤ v5) ∧ ((v5 ≤ v6) ∧ ((v7 = v8) ∧ (v9 ≠ 0)))) : v5 = v0 := by first | lia | omega
theorem om520 {v0 v1 : Nat} (h0 : v0 ≥ v1) : v1 ≤ v0 := by first | exact h0 | omega
theorem om521 {v0 v1 v2 v3 v4 : Nat} (h0 : (1 ≤ v0) ∧ ((v0 ≤ v1) ∧ ((v2 = v3) ∧ (v4 ≠ 0)))) : (v0 - 1) < v1 := by first | lia | omega
theorem om522 {v0 v1 v2 v3 v4 : Nat} (h0 : (1 ≤ v0) ∧ ((v0 ≤ v1) ∧ ((v2 = v3) ∧ (v4 ≠ 0)))) : ((Nat.cast v0 : Int) - (1 : Int)) = (Nat.cast (v0 - 1) : Int) := by first | lia | omega
theorem om523 {v0 v1 v2 v3 v4 v5 : Nat} (h0 : 1 ≤ v0) (h1 : v0 < 7) (h2 : (1 ≤ v1) ∧ ((v1 ≤ v0) ∧ ((v2 = v3) ∧ (v4 ≠ 0)))) (h3 : ((Nat.cast v1 : Int) - (1 : Int)) = (Nat.cast v5 : Int)) : v5 < 7 := by first | lia | omega
theorem om524 {v0 v1 v2 v3 v4 : Nat} (h0 : 1 ≤ v0) (h1 : v0 < 7) (h2 : (1 ≤ v1) ∧ ((v1 ≤ v0) ∧ ((v2 = v3) ∧ (v4 ≠ 0)))) : (v1 - 1) < 7 := by first | lia | omega
theorem om525 {v0 v1 v2 v3 v4 v5 v6 v7 v8 v9 : Nat} (h0 : (v0 - 1) < (v1 - 1)) (h1 : (1 ≤ v0) ∧ ((v0 ≤ v2) ∧ ((v3 = v4) ∧ (v5 ≠ 0)))) (h2 : (1 ≤ v1) ∧ ((v1 ≤ v6) ∧ ((v7 = v8) ∧ (v9 ≠ 0)))) : v0 < v1 := by first | lia | omega
theorem om526 {v0 v1 v2 v3 v4 v5 : Nat} (h0 : v0 < 7) (h1 : ((Nat.cast v1 : Int) - (1 : Int)) = (Nat.cast v0 : Int)) (h2 : v2 < v3) (h3 : v4 = v1) (h4 : v5 = v1) : (v5 - 1) = v0 := by first | lia | omega
theorem om527 {v0 v1 v2 v3 : Nat} (h0 : v0 < 7) (h1 : ((Nat.cast v1 : Int) - (1 : Int)) = (Nat.cast v0 : Int)) (h2 : 0 < v2) (h3 : v3 = v1) (h4 : 0 = v1) : 1 ≤ 0 := by first | lia | omega
theorem om528 {v0 v1 v2 v3 v4 v5 : Nat} (h0 : (v0 - 1) = v1) (h1 : (1 ≤ v0) ∧ ((v0 ≤ v2) ∧ ((v3 = v4) ∧ (v5 ≠ 0)))) : ((Nat.cast v0 : Int) - (1 : Int)) = (Nat.cast v1 : Int) := by first | lia | omega
theorem om529 {v0 v1 : Nat} (h0 : v0 < v1) : ((v0 + 1) + (v1 - (v0 + 1))) = v1 := by first | lia | omega
theorem om530 {v0 v1 v2 : Nat} (h0 : v0 < 7) (h1 : v1 < v2) (h2 : v1 < (7 - (v0 + 1))) : ((v0 + 1) + v1) < 7 := by first | lia | omega
theorem om531 {v0 v1 : Nat} (h0 : v0 < (7 - (v1 + 1))) : v0 < (7 - (v1 + 1)) := by first | exact h0 | omega
theorem om532 {v0 v1 v2 : Nat} (h0 : v0 < v1) : v2 < ((v2 + 1) + v0) := by first | exact Nat.le_add_right _ _ | omega
theorem om533 {v0 v1 v2 v3 : Nat} (h0 : v0 < v1) (h1 : ¬ (v2 = v3)) (h2 : ((Nat.cast v2 : Int) - (1 : Int)) = ((Nat.cast v3 : Int) - (1 : Int))) : False := by first | lia | omega
theorem om534 {v0 v1 : Nat} (h0 : v0 ≤ v1) : (v0 + (v1 - v0)) = v1 := by first | lia | omega
theorem om535 {v0 : Nat} (h0 : v0 ≤ 7) : (v0 + (7 - v0)) = 7 := by first | lia | omega
theorem om536 {v0 : Nat}  : ((8 * v0) + 1) ≤ ((8 * (v0 + 1)) + 1) := by first | lia | omega
theorem om537 {v0 v1 v2 : Nat} (h0 : v0 ≤ v1) : (((8 * v2) + v0) + 1) ≤ (((8 * v2) + v1) + 1) := by first | lia | omega
theorem om538 {v0 v1 : Nat} (h0 : v0 = (v1 + 1)) (h1 : v1 ≤ 7) : v0 ≤ 8 := by first | lia | omega
theorem om539 {v0 v1 : Nat}  : (¬ (v0 < v1)) ↔ (v1 ≤ v0) := by first | lia | omega
theorem om540 {v0 v1 v2 v3 : Nat} (h0 : v0 < v1) : ((Nat.cast v2 : Int) < (Nat.cast v3 : Int)) ↔ (v2 < v3) := by first | lia | omega
theorem om541 {v0 : Nat} (h0 : v0 ≤ 7) : v0 ≤ 8 := by first | exact Nat.le_trans h0 (by decide) | omega
theorem om542 {v0 v1 v3 v4 v5 : Nat} {v2 : Int} (h0 : v0 < v1) (h1 : v2 = (Nat.cast v3 : Int)) (h2 : (v4 < v3) ↔ (v0 < v5)) : (((Nat.cast v3 : Int) - (1 : Int)) < (Nat.cast v4 : Int)) ↔ (v5 ≤ v0) := by first | lia | omega
theorem om543 {v0 v1 v2 : Nat} (h0 : v0 ≤ 7) (h1 : v1 ≤ v0) (h2 : v2 < (v0 - v1)) : (v1 + v2) < 7 := by first | lia | omega
theorem om544 {v0 : Nat} (h0 : 1 ≤ v0) (h1 : v0 < 7) : v0 = ((v0 - 1) + 1) := by first | lia | omega
theorem om545 {v0 v1 : Nat} (h0 : v0 = 6) (h1 : 1 ≤ (v1 + 1)) (h2 : (v1 + 1) < 7) : v1 < v0 := by first | lia | omega
theorem om546 {v0 v1 v2 v3 v4 : Nat} (h0 : v0 < 7) (h1 : v0 > 0) (h2 : (1 ≤ v1) ∧ ((v1 ≤ v0) ∧ ((v2 = v3) ∧ (v4 ≠ 0)))) : (v1 - 1) < 7 := by first | lia | omega
theorem om547 {v0 : Nat} {v1 : Prop} (h0 : v0 < 7) (h1 : (-(1 : Int)) = (Nat.cast v0 : Int)) : v1 := by first | lia | omega
theorem om548 {v0 v1 : Nat} (h0 : v0 < v1) (h1 : v0 < 6) : (v0 + 1) < 7 := by first | lia | omega
theorem om549 {v0 v1 : Nat} (h0 : v0 < v1) (h1 : v0 < 6) (h2 : 0 = (v0 + 1)) : 1 ≤ 0 := by first | lia | omega
theorem om550 {v0 v1 v2 v3 : Nat} (h0 : v0 = 6) (h1 : v1 < v2) (h2 : v1 < 6) (h3 : v3 = (v1 + 1)) : v1 < v0 := by first | (subst h0; exact h2) | omega
theorem om551 {v0 v1 v2 v3 v4 v5 v6 : Nat} (h0 : v0 < v1) (h1 : v2 < 7) (h2 : 1 ≤ v2) (h3 : (1 ≤ v3) ∧ ((v3 ≤ v2) ∧ ((v4 = v5) ∧ (v6 ≠ 0)))) : (v3 - 1) < 7 := by first | lia | omega
theorem om552 {v0 v1 : Nat} (h0 : v0 = 6) (h1 : v1 < 7) : (v1 - 1) < v0 := by first | lia | omega
theorem om553 {v0 v1 v2 v3 v4 : Nat} (h0 : (1 ≤ v0) ∧ ((v0 ≤ v1) ∧ ((v2 = v3) ∧ (v4 ≠ 0)))) (h1 : v4 < 7) : 1 ≤ v4 := by first | lia | omega
theorem om554 {v0 v1 : Nat} (h0 : 1 ≤ v0) (h1 : v0 < 7) (h2 : v1 = 6) : (v0 - 1) < v1 := by first | lia | omega
theorem om555 {v0 : Nat} (h0 : 1 ≤ v0) (h1 : v0 < 7) : ((v0 - 1) + 1) = v0 := by first | lia | omega
theorem om556 {v0 : Nat} (h0 : v0 < 7) (h1 : v0 > 0) (h2 : v0 < 0) : False := by first | lia | omega
theorem om557 {v0 : Nat} (h0 : v0 ≤ 6) : (v0 + 0) ≤ 6 := by first | exact h0 | omega
theorem om558 {v0 v1 : Nat} (h0 : v0 = 14) (h1 : v1 = v0) : v1 = 14 := by first | (subst h0; exact h1) | omega
theorem om559 {v0 : Nat} (h0 : v0 ≤ (14 * (6 + 1))) : v0 ≤ 500 := by first | exact Nat.le_trans h0 (by decide) | omega
theorem om560 {v0 : Nat} (h0 : v0 < 7) (h1 : v0 > 0) : (7 - v0) ≤ 6 := by first | lia | omega
theorem om561 {v0 v1 : Nat} (h0 : v0 ≤ v1) (h1 : v1 ≤ (2 ^ 6)) : v0 ≤ 64 := by first | exact Nat.le_trans h0 h1 | omega
theorem om562 {v0 v1 v2 : Nat} (h0 : v0 ≤ (v1 * (6 + 1))) (h1 : v1 ≤ v2) (h2 : v2 ≤ (2 ^ 6)) : v0 ≤ 500 := by first | lia | omega
theorem om563 {v0 v1 : Nat} (h0 : v0 ≤ 6) (h1 : v1 ≤ 5) : (v0 + v1) ≤ 11 := by first | lia | omega
theorem om564 {v0 v1 : Nat} (h0 : v0 ≤ 6) (h1 : v1 ≤ 4) : (v0 + v1) ≤ 11 := by first | lia | omega
theorem om565 {v0 : Nat} (h0 : v0 ≤ 6) : (v0 + 0) ≤ 11 := by first | exact Nat.le_trans h0 (by decide) | omega
theorem om566 {v0 : Nat} (h0 : v0 ≤ (14 * (11 + 1))) : v0 ≤ 500 := by first | exact Nat.le_trans h0 (by decide) | omega
theorem om567 {v0 : Nat} (h0 : v0 ≤ (14 * (11 + 1))) : v0 ≤ 400 := by first | exact Nat.le_trans h0 (by decide) | omega
theorem om568 {v0 : Int} (h0 : v0 < (4 : Int)) : v0 < (4 : Int) := by first | exact h0 | omega
theorem om569 {v0 : Int} (h0 : (0 : Int) ≤ v0) (h1 : v0 < (4 : Int)) : v0 < ((2 : Int) ^ 63) := by first | exact Int.le_trans h1 (by decide) | omega
theorem om570 {v0 v1 : Nat} (h0 : v0 ≤ 400) (h1 : v1 = 2) : (v0 + v1) ≤ 16777216 := by first | lia | omega
theorem om571 {v0 v1 : Nat} (h0 : v0 ≤ 400) (h1 : v1 = 2) : (v0 + v1) ≤ 500 := by first | lia | omega
theorem om572 {v0 v1 v2 : Nat} (h0 : v0 ≤ 400) (h1 : v1 = 2) (h2 : v2 ≤ (v0 + v1)) : v2 ≤ 16777216 := by first | lia | omega
theorem om573 {v0 v1 v2 v3 v4 : Nat} (h0 : v0 ≤ 400) (h1 : v1 = 2) (h2 : v2 = v3) (h3 : v2 = (v4 + 2)) (h4 : v3 ≤ (v0 + v1)) : v3 ≤ 16777216 := by first | lia | omega
theorem om574 {v0 : Nat}  : (Nat.cast (v0 + 1) : Int) = ((Nat.cast v0 : Int) + (1 : Int)) := by first | exact rfl | omega
theorem om575 {v0 : Int} (h0 : (0 : Int) ≤ v0) (h1 : v0 < (3 : Int)) : (v0 = (0 : Int)) ∨ ((v0 = (1 : Int)) ∨ (v0 = (2 : Int))) := by first | lia | omega
theorem om576 {v0 v1 v2 v3 v4 : Nat} (h0 : (1 ≤ v0) ∧ ((v0 ≤ v1) ∧ ((v2 = v3) ∧ (v4 ≠ 0)))) : ((Nat.cast v0 : Int) - (1 : Int)) < (Nat.cast v1 : Int) := by first | lia | omega
theorem om577 {v0 : Nat}  : (6 - v0) < 8 := by first | lia | omega
theorem om578 {v0 : Nat} (h0 : 1 ≤ (v0 + 1)) (h1 : (v0 + 1) < 7) : v0 < 6 := by first | exact Nat.le_of_lt_succ h1 | omega
theorem om579 {v0 v1 : Nat} {v2 : Int} (h0 : 1 ≤ (v0 + 1)) (h1 : (v0 + 1) < 7) (h2 : v1 = (Int.toNat v2)) (h3 : (Int.toNat v2) < (1 + v0)) : ((0 : Int) ≤ (Nat.cast v1 : Int)) ∧ ((Nat.cast v1 : Int) < (7 : Int)) := by first | lia | omega
theorem om580 {v0 v1 : Nat} (h0 : v0 = (v1 + 1)) (h1 : v1 ≤ 7) : (v0 ≤ 8) ∧ (1 ≤ v0) := by first | lia | omega
theorem om581 {v0 : Nat} (h0 : ¬ ((Nat.cast 63 : Int) < (Nat.cast v0 : Int))) : v0 ≤ 63 := by first | lia | omega
end Mine
end

section
open PySem PySem.W PyProof.Rows PySem.Calls PySem.Spec
namespace Mine

theorem strs_getD {vs : List Value} {ss : List PySem.Str} (h : StrsAre vs ss) : ∀ {i : Nat}, i < ss.length → ∃ t, vs[i]? = some (.str (ss.getD i (Str.ofString "")) t) := by
  induction h with
  | nil => intro i hi; simp at hi
  | cons y t _ ih =>
    intro i hi
    cases i with
    | zero => exact ⟨t, rfl⟩
    | succ i => obtain ⟨t', h'⟩ := ih (i := i) (by simpa using hi); exact ⟨t', by simpa using h'⟩
theorem ints_getD {vs : List Value} {ss : List Int} (h : IntsAre vs ss) : ∀ {i : Nat}, i < ss.length → ∃ t, vs[i]? = some (.int (ss.getD i 0) t) := by
  induction h with
  | nil => intro i hi; simp at hi
  | cons y t _ ih =>
    intro i hi
    cases i with
    | zero => exact ⟨t, rfl⟩
    | succ i => obtain ⟨t', h'⟩ := ih (i := i) (by simpa using hi); exact ⟨t', by simpa using h'⟩
section
variable {prog : Program} {w : World} {A : Around} {E : Value → Shared → Prop} {s : Shared} {value slice : PySem.Expr} {l L : Addr} {h₀ : Heap} {news : List (Addr × Obj)} {n : Nat} {k : Int} {u : Tok} {Q : Value → Shared → Prop}
/-- a list's item at a place told by a fact -/
theorem item_led {vs : Array Value} {v : Value} (N : News h₀ L s.heap news) (hm : (l, listOf vs n) ∈ news)
    (h0 : 0 ≤ k) (hhi : k < 2 ^ 63) (hx : vs[k.toNat]? = some v) (h : Q v s)
    (hs : subscripted slice false (.ref l) (.int k u) = operate [.ref l, .int k u] (getItem (.ref l) (.int k u))) :
    wpAny (model prog w) A (subscriptTail value slice (.ref l) (.int k u)) Q E s :=
  have hl : s.heap.IsList l vs := ⟨_, (N _ hm).1, rfl, _, rfl⟩
  tail_any hl.typeIs slot_list_getitem.lookup (wpAny_getItem_list hl h0 hhi hx h) hs
theorem item_strs {vs : List Value} {ss : List PySem.Str} (N : News h₀ L s.heap news) (hm : (l, listOf vs.toArray n) ∈ news) (hss : StrsAre vs ss)
    (h0 : 0 ≤ k) (hk : k < ss.length) (hhi : k < 2 ^ 63) (h : ∀ t, Q (.str (ss.getD k.toNat (Str.ofString "")) t) s)
    (hs : subscripted slice false (.ref l) (.int k u) = operate [.ref l, .int k u] (getItem (.ref l) (.int k u))) :
    wpAny (model prog w) A (subscriptTail value slice (.ref l) (.int k u)) Q E s := by
  obtain ⟨t, ht⟩ := strs_getD hss (i := k.toNat) (by (first | exact om151 h0 hk hhi | omega))
  exact item_led N hm h0 hhi (by simpa using ht) (h t) hs
theorem item_ints {vs : List Value} {ss : List Int} (N : News h₀ L s.heap news) (hm : (l, listOf vs.toArray n) ∈ news) (hss : IntsAre vs ss)
    (h0 : 0 ≤ k) (hk : k < ss.length) (hhi : k < 2 ^ 63) (h : ∀ t, Q (.int (ss.getD k.toNat 0) t) s)
    (hs : subscripted slice false (.ref l) (.int k u) = operate [.ref l, .int k u] (getItem (.ref l) (.int k u))) :
    wpAny (model prog w) A (subscriptTail value slice (.ref l) (.int k u)) Q E s := by
  obtain ⟨t, ht⟩ := ints_getD hss (i := k.toNat) (by (first | exact om151 h0 hk hhi | omega))
  exact item_led N hm h0 hhi (by simpa using ht) (h t) hs
end
end Mine
end

section
open PySem PySem.W PyProof.Rows PySem.Calls PySem.Spec
namespace Mine
/-- where the walk is to stand still -/
noncomputable def Halt (P : Prop) : Prop := P
theorem Halt.mk {P : Prop} (h : Halt P) : P := h
theorem Halt.of {P : Prop} (h : P) : Halt P := h

section
variable {prog : Program} {w : World} {A : Around} {E : Value → Shared → Prop} {s : Shared} {env : Env} {h₀ : Heap} {x : PySem.Str} {body : List Stmt} {Q : Flow → Shared → Prop}
theorem UnrPost.mono {L I : Addr} {it : Obj} {r r' : (PySem.Str → Option Value) → List (Addr × Obj) → Prop} {s₁ : Shared} (h : ∀ m nx, (∀ p ∈ nx, p.1 ≠ I) → r m nx → r' m nx) : ∀ f s₂, UnrPost h₀ L s₁ I it r Q f s₂ → UnrPost h₀ L s₁ I it r' Q f s₂ := by
  intro f s₂ p
  have go : UnrEnd h₀ L s₁ I it r s₂ → UnrEnd h₀ L s₁ I it r' s₂ := by
    rintro ⟨h', tk, m', nx, e, F, N, off, q⟩
    exact ⟨h', tk, m', nx, e, F, N, off, h _ _ off q⟩
  cases f with
  | ret v => exact p
  | brk => exact p
  | next => exact go p
  | cont => exact go p
theorem UnrEnd.of {L I : Addr} {it : Obj} {r : (PySem.Str → Option Value) → List (Addr × Obj) → Prop} {s₁ : Shared} {h' : Heap} {tk : Nat} {m' : PySem.Str → Option Value} {nx all : List (Addr × Obj)} (F : Fr h₀ L h' m') (N : News h₀ L h' all)
    (off : ∀ p ∈ nx, p.1 ≠ I) (hI : (I, it) ∈ all) (hs : ∀ p ∈ nx, p ∈ all) (q : r m' nx) : UnrEnd h₀ L s₁ I it r { s₁ with heap := h', toks := tk } :=
  ⟨h', tk, m', nx, rfl, F, fun p hp => by
    rcases List.mem_cons.mp hp with rfl | hp
    · exact N _ hI
    · exact N _ (hs p hp), off, q⟩
/-- a loop over a range by ones, by an invariant over the frame's map and the ledger (which may grow) -/
theorem rng_loop {r : Addr} {a₀ b₀ : Int} {t₀ u₀ v₀ : Tok} {n : Nat} {m₀ : PySem.Str → Option Value} {news : List (Addr × Obj)} (J : Nat → (PySem.Str → Option Value) → List (Addr × Obj) → Prop)
    (hh : A.handled = none) (hr : IsRange s.heap r a₀ b₀ 1 t₀ u₀ v₀) (hsmall : Builtin.Range.small a₀ b₀ 1 = true) (hn : Builtin.Range.rangeSize a₀ b₀ 1 = (n : Int)) (F : Fr h₀ env.locals s.heap m₀) (N : News h₀ env.locals s.heap news)
    (hj : J 0 m₀ news)
    (turn : ∀ (I : Addr) i t m₁ nx h tk, i < n → J i m₁ nx → (∀ p ∈ nx, p.1 ≠ I) → Fr h₀ env.locals h (fun y => if y = x then some (.int (a₀ + (i : Int)) t) else m₁ y) →
      News h₀ env.locals h ((I, itR (a₀ + ((i + 1 : Nat) : Int)) ((n : Int) - ((i + 1 : Nat) : Int))) :: nx) →
      wpAny (model prog w) A (execs body env) (UnrPost h₀ env.locals { s with heap := h, toks := tk } I (itR (a₀ + ((i + 1 : Nat) : Int)) ((n : Int) - ((i + 1 : Nat) : Int))) (J (i + 1)) Q) E { s with heap := h, toks := tk })
    (done : ∀ m₁ nx h tk, J n m₁ nx → Fr h₀ env.locals h m₁ → News h₀ env.locals h nx → Q .next { s with heap := h, toks := tk }) :
    wpAny (model prog w) A (pyIter (.ref r)) (fun it s₂ => LoopAtV prog w A h₀ env x body Q E it s₂) E s := by
  refine iter_rangeUnr hh hr hsmall hn F N fun I hI => ?_
  have all : ∀ k i m nx, i + k = n → J i m nx → (∀ p ∈ nx, p.1 ≠ I) → RangeRest prog w A E h₀ env x body Q s I a₀ n k i m nx := by
    intro k
    induction k with
    | zero =>
      intro i m nx hk hJ off h tk F' N'
      have : i = n := by (first | exact om189 hk | omega)
      subst this
      exact done _ _ _ _ hJ F' N'
    | succ k ih =>
      intro i m nx hk hJ off t h tk F' N'
      refine wpAny_mono (turn I i t m nx h tk (by (first | exact om190 hk | omega)) hJ off F' N') (fun f s₂ p => ?_) fun _ _ e => e
      exact UnrPost.mono (fun m' nx' off' hJ' => ih (i + 1) m' nx' (by (first | exact om191 hk | omega)) hJ' off') f s₂ p
  exact all n 0 m₀ news (by (first | exact om192 | omega)) hj fun p hp => Nat.ne_of_lt (hI p hp)
end
/-- what a loop keeps of the frame's map: named values, forgotten names, all else as it stood -/
noncomputable def Kept {σ : Type} (Led : σ → List (Addr × Obj)) (ps : σ → List (PySem.Str × Value)) (x : PySem.Str) (stored : List PySem.Str) (m₀ : PySem.Str → Option Value) (P : σ → Prop) (m : PySem.Str → Option Value) (nx : List (Addr × Obj)) : Prop :=
  ∃ c : σ, nx = Led c ∧ P c ∧ (∀ p ∈ ps c, m p.1 = some p.2) ∧ ∀ z, z ≠ x → (∀ p ∈ ps c, z ≠ p.1) → stored.contains z = false → m z = m₀ z
section
variable {prog : Program} {w : World} {A : Around} {E : Value → Shared → Prop} {s : Shared} {env : Env} {h₀ : Heap} {x : PySem.Str} {body : List Stmt} {Q : Flow → Shared → Prop} {σ : Type}
theorem rng_st {r : Addr} {a₀ b₀ : Int} {t₀ u₀ v₀ : Tok} {m₀ : PySem.Str → Option Value} (n : Nat) (Led : σ → List (Addr × Obj)) (ps : σ → List (PySem.Str × Value)) (stored : List PySem.Str) (P : Nat → σ → Prop) (c₀ : σ)
    (hh : A.handled = none) (hr : IsRange s.heap r a₀ b₀ 1 t₀ u₀ v₀) (hsmall : Builtin.Range.small a₀ b₀ 1 = true) (hn : Builtin.Range.rangeSize a₀ b₀ 1 = (n : Int)) (F : Fr h₀ env.locals s.heap m₀) (N : News h₀ env.locals s.heap (Led c₀))
    (hk : ∀ p ∈ ps c₀, m₀ p.1 = some p.2) (hp : P 0 c₀)
    (turn : ∀ (I : Addr) (i : Nat) (c : σ) t (u : PySem.Str → Option Value) h tk, i < n → P i c → (∀ p ∈ Led c, p.1 ≠ I) → Fr h₀ env.locals h (fun y => if y = x then some (.int (a₀ + (i : Int)) t) else kstB (fun z => if stored.contains z then u z else m₀ z) (ps c) y) →
      News h₀ env.locals h ((I, itR (a₀ + ((i + 1 : Nat) : Int)) ((n : Int) - ((i + 1 : Nat) : Int))) :: Led c) →
      wpAny (model prog w) A (execs body env) (UnrPost h₀ env.locals { s with heap := h, toks := tk } I (itR (a₀ + ((i + 1 : Nat) : Int)) ((n : Int) - ((i + 1 : Nat) : Int))) (Kept Led ps x stored m₀ (P (i + 1))) Q) E { s with heap := h, toks := tk })
    (done : ∀ (c : σ) (u : PySem.Str → Option Value) h tk, P n c → Fr h₀ env.locals h (fun y => if y = x then u y else kstB (fun z => if stored.contains z then u z else m₀ z) (ps c) y) → News h₀ env.locals h (Led c) → Q .next { s with heap := h, toks := tk }) :
    wpAny (model prog w) A (pyIter (.ref r)) (fun it s₂ => LoopAtV prog w A h₀ env x body Q E it s₂) E s := by
  refine rng_loop (fun i m nx => Kept Led ps x stored m₀ (P i) m nx) hh hr hsmall hn F N ⟨c₀, rfl, hp, hk, fun _ _ _ _ => rfl⟩ ?_ ?_
  · rintro I i t m₁ nx h tk hi ⟨c, rfl, hp', h1, h2⟩ off F₁ N₁
    exact turn I i c t m₁ h tk hi hp' off (kst_fr h1 h2 F₁) N₁
  · rintro m₁ nx h tk ⟨c, rfl, hp', h1, h2⟩ F₁ N₁
    exact done c m₁ h tk hp' (kst_frOut h1 h2 F₁) N₁
theorem UnrEnd.st {Led : σ → List (Addr × Obj)} {ps : σ → List (PySem.Str × Value)} {stored : List PySem.Str} {P : σ → Prop} {m₀ : PySem.Str → Option Value} {L I : Addr} {it : Obj} {s₁ : Shared} {h' : Heap} {tk : Nat} {m' : PySem.Str → Option Value} {all : List (Addr × Obj)} (c : σ) (F : Fr h₀ L h' m') (N : News h₀ L h' all)
    (off : ∀ p ∈ Led c, p.1 ≠ I) (hI : (I, it) ∈ all) (hs : ∀ p ∈ Led c, p ∈ all) (hp : P c) (h1 : ∀ p ∈ ps c, m' p.1 = some p.2) (h2 : ∀ z, z ≠ x → (∀ p ∈ ps c, z ≠ p.1) → stored.contains z = false → m' z = m₀ z) :
    UnrEnd h₀ L s₁ I it (Kept Led ps x stored m₀ P) { s₁ with heap := h', toks := tk } :=
  UnrEnd.of F N off hI hs ⟨c, rfl, hp, h1, h2⟩
end
theorem range_size {a b : Int} {n : Nat} (h : b - a = n) : Builtin.Range.rangeSize a b 1 = (n : Int) := by
  unfold Builtin.Range.rangeSize
  rw [if_pos (by decide)]
  split <;> (first | exact om193 h | exact om194 h (by assumption) | omega)
theorem range_small {a b : Int} (h0 : -1000000 ≤ a) (h1 : a ≤ 1000000) (h2 : -1000000 ≤ b) (h3 : b ≤ 1000000) : Builtin.Range.small a b 1 = true := by
  have hs : Builtin.Range.rangeSize a b 1 = if a < b then b - a else 0 := by
    unfold Builtin.Range.rangeSize
    rw [if_pos (by decide)]
    split <;> (first | exact om195 | exact om196 | omega)
  unfold Builtin.Range.small
  rw [hs]
  have e : (if a < b then b - a else 0) ≤ 2000000 ∧ 0 ≤ (if a < b then b - a else 0) := by split <;> (first | exact om197 h0 h1 h2 h3 (by assumption) | exact om198 | omega)
  generalize (if a < b then b - a else 0) = d at e
  simp only [Builtin.Range.rangeFitsLong, Bool.and_eq_true, decide_eq_true_eq, Bool.or_eq_true]
  refine ⟨⟨⟨⟨by (first | exact om199 h0 h1 | omega), by (first | exact om199 h2 h3 | omega)⟩, by decide⟩, by (first | exact om200 e | omega)⟩, .inr ?_⟩
  rw [if_pos (by decide)]
  simp only [decide_eq_true_eq, Bool.and_eq_true]
  (first | exact om201 h2 h3 | omega)
end Mine
end

section
open PySem PySem.W PyProof.Rows PySem.Calls PySem.Spec
namespace Mine
noncomputable def lineStep (ab : List Int) (f : Int → PySem.Str) (node : Int) (line : PySem.Str) (o : Int) : PySem.Str :=
  if ab.getD o.toNat 0 = node then line ++ f o else line
/-- the line up to the i-th of the nodes behind node -/
noncomputable def lineUpTo (ab : List Int) (wd pc : List PySem.Str) (f : Int → PySem.Str) (node : Int) : Nat → PySem.Str
  | 0 => Str.ofString "(" ++ wd.getD node.toNat (Str.ofString "") ++ pc.getD node.toNat (Str.ofString "")
  | i + 1 => lineStep ab f node (lineUpTo ab wd pc f node i) (node + 1 + (i : Int))
noncomputable def lineF (ab : List Int) (wd pc : List PySem.Str) : Nat → Int → PySem.Str
  | 0, _ => Str.ofString ""
  | k + 1, node => lineUpTo ab wd pc (lineF ab wd pc k) node (6 - node).toNat ++ Str.ofString ")"
theorem lineUpTo_len {ab : List Int} {wd pc : List PySem.Str} {f : Int → PySem.Str} {node : Int} {B : Nat} (b2 : ∀ i : Nat, (wd.getD i (Str.ofString "")).length ≤ 6) (b3 : ∀ i : Nat, (pc.getD i (Str.ofString "")).length ≤ 5) (hf : ∀ o, 0 ≤ o → (f o).length ≤ B) (h0 : 0 ≤ node) :
    ∀ i, (lineUpTo ab wd pc f node i).length ≤ 12 + i * B := by
  intro i
  induction i with
  | zero =>
    have e3 := b2 node.toNat
    have e4 := b3 node.toNat
    have e1 : (Str.ofString "(").length = 1 := by decide
    simp only [lineUpTo, Str.length_append]
    (first | exact om202 e3 e4 e1 | omega)
  | succ i ih =>
    unfold lineUpTo lineStep
    have := hf (node + 1 + (i : Int)) (by (first | exact om203 h0 | omega))
    rw [Nat.succ_mul]
    split
    · rw [Str.length_append]; (first | exact om204 ih this | omega)
    · (first | exact om205 ih | omega)
/-- bounds of the lines, by the levels -/
noncomputable def lineB : Nat → Nat
  | 0 => 0
  | k + 1 => 13 + 6 * lineB k
theorem lineF_len {ab : List Int} {wd pc : List PySem.Str} (b2 : ∀ i : Nat, (wd.getD i (Str.ofString "")).length ≤ 6) (b3 : ∀ i : Nat, (pc.getD i (Str.ofString "")).length ≤ 5) :
    ∀ k node, 0 ≤ node → (lineF ab wd pc k node).length ≤ lineB k := by
  intro k
  induction k with
  | zero => intro node _; exact Nat.le_of_eq (show (Str.ofString "").length = 0 by decide)
  | succ k ih =>
    intro node h0
    unfold lineF lineB
    rw [Str.length_append]
    have e1 : (Str.ofString ")").length = 1 := by decide
    have h1 := lineUpTo_len (ab := ab) b2 b3 ih h0 (6 - node).toNat
    have h2 : (6 - node).toNat * lineB k ≤ 6 * lineB k := Nat.mul_le_mul_right _ (by (first | exact om206 h0 | omega))
    (first | exact om207 e1 h1 h2 | omega)
theorem lineB_le {k : Nat} (h : k ≤ 7) : lineB k ≤ 16000000 := by
  have : ∀ j : Fin 8, lineB j.1 ≤ 16000000 := by decide
  exact this ⟨k, by (first | exact om208 h | omega)⟩
theorem size_is : sizeLine = 16777216 := by decide

local macro_rules | `(tactic| k_mem) => `(tactic| first | assumption | (refine List.mem_cons_of_mem _ ?_; first | assumption | k_mem))
local macro_rules | `(tactic| walk_at "subscriptTail") => `(tactic| (k_here; (with_reducible show wpAny _ _ (subscriptTail _ _ (Value.ref _) (Value.int _ _)) _ _ _); (first | (with_unfolding_all refine' item_strs ?k1 ?k2 ?k3 ?k4 ?k5 ?k7 ?_ ?k6; (case k1 => k_asm); (case k2 => k_mem); (case k3 => assumption); (case k4 => omega); (case k5 => omega); (case k7 => omega); (case k6 => with_unfolding_all rfl); k_whole; intro _) | (with_unfolding_all refine' item_ints ?k1 ?k2 ?k3 ?k4 ?k5 ?k7 ?_ ?k6; (case k1 => k_asm); (case k2 => k_mem); (case k3 => assumption); (case k4 => omega); (case k5 => omega); (case k7 => omega); (case k6 => with_unfolding_all rfl); k_whole; intro _))))
local macro_rules | `(tactic| walk_at "binaryOp Add str str") => `(tactic| (refine Halt.mk ?_))
local macro_rules | `(tactic| walk_at "pyIter ref") => `(tactic| (refine Halt.mk ?_))
local macro_rules | `(tactic| walk_at "call ref") => `(tactic| (refine Halt.mk ?_))
theorem line_tells (w : World) (mean : ExcName → Option Value) (mg mb : PySem.Str → Option Value) (lab lwd lpc : Addr) (nab nwd npc : Nat) (vab vwd vpc : List Value) (ab : List Int) (wd pc : List PySem.Str)
    (hab : IntsAre vab ab) (hwd : StrsAre vwd wd) (hpc : StrsAre vpc pc) (l1 : ab.length = 7) (l2 : wd.length = 7) (l3 : pc.length = 7) 
    (b2 : ∀ i : Nat, (wd.getD i (Str.ofString "")).length ≤ 6) (b3 : ∀ i : Nat, (pc.getD i (Str.ofString "")).length ≤ 5) : 
  ∀ (k : Nat) (node : Int) (tn : Tok), k ≤ 7 → 0 ≤ node → node ≤ 6 → 7 - node ≤ k →
  ∀ (dp un : Nat) (gd : Option (List Code)) (cn : PySem.Str) (cs : Scope) (a : Addr) (ccd : Value) (cl : List (PySem.Str × Addr)) (outer : List Env) (A₀ : Around) (base h₀ : Heap) (L : Addr) (m : PySem.Str → Option Value) (news : List (Addr × Obj)) (s : Shared)
    (Q E : Value → Shared → Prop),
    Below A₀ base outer h₀ → Fr h₀ L s.heap m → (Mine.hd.heap_39 w.params).In h₀ → News h₀ L s.heap news → Top topProg lzz mean mg mb h₀ → cs.kind = .function → dp + k < recursionLimit → un + 8 * k < cLine →
    (lab, listOf vab.toArray nab) ∈ news → (lwd, listOf vwd.toArray nwd) ∈ news → (lpc, listOf vpc.toArray npc) ∈ news →
    (∀ t h' tk', Fr h₀ L h' m → News h₀ L h' news → Q (.str (lineF ab wd pc k node) t) { s with heap := h', toks := tk' }) →
    wpAny (model Challenge.rw_ux0024_01.row.toRowW.prog w) (ktrTop dp un gd cn cs L a ccd cl outer) (call (.ref 189) [.ref lab, .ref lwd, .ref lpc, .int node tn]) Q E s := by
  revert hab hwd hpc l1 l2 l3 b2 b3
  revert lzz w mean mg mb lab lwd lpc nab nwd npc vab vwd vpc ab wd pc
  refine @pk12 _ _ _ _ _ _ _ _ _ _ _ _  ⟨default, (aWorld 0), default, default, default, default, default, default, default, default, default, default⟩ _ ?_; generalize pick12 _ _ = zz; generalize zz.1 = lzz; generalize zz.2.1 = w; generalize zz.2.2.1 = mean; generalize zz.2.2.2.1 = mg; generalize zz.2.2.2.2.1 = mb; generalize zz.2.2.2.2.2.1 = lab; generalize zz.2.2.2.2.2.2.1 = lwd; generalize zz.2.2.2.2.2.2.2.1 = lpc; generalize zz.2.2.2.2.2.2.2.2.1 = nab; generalize zz.2.2.2.2.2.2.2.2.2.1 = nwd; generalize zz.2.2.2.2.2.2.2.2.2.2.1 = npc; generalize zz.2.2.2.2.2.2.2.2.2.2.2 = vab; clear zz
  refine @pk5 _ _ _ _ _ inferInstance _ ?_; generalize pick5 _ _ = zz; generalize zz.1 = vwd; generalize zz.2.1 = vpc; generalize zz.2.2.1 = ab; generalize zz.2.2.2.1 = wd; generalize zz.2.2.2.2 = pc; clear zz
  intro hab hwd hpc l1 l2 l3 b2 b3
  intro k
  revert k
  refine pk1 ?_; generalize pick1 _ _ = k
  induction k with
  | zero => intro node tn _ h0 h6 hk; (first | exact om209 h0 h6 hk | omega)
  | succ k ih =>
  intro node tn hk7 h0 h6 hk
  revert ih hk7 h0 h6 hk
  revert k node tn
  refine pk3 ?_; generalize pick3 _ _ = zz; generalize zz.1 = k; generalize zz.2.1 = node; generalize zz.2.2 = tn; clear zz
  intro ih hk7 h0 h6 hk
  k_fill
  intro dp un gd cn cs a ccd cl outer A₀ base h₀ L m news s Q E B F X N T hkf hdp hu m1 m2 m3 hret
  revert B F X N T hkf hdp hu m1 m2 m3 hret
  revert dp un gd cn cs a ccd cl outer A₀ base h₀ L m news s Q E
  refine pk12 (o := ⟨default, default, default, default, default, default, default, default, default, callerA, default, default⟩) ?_; generalize pick12 _ _ = zz; generalize zz.1 = dp; generalize zz.2.1 = un; generalize zz.2.2.1 = gd; generalize zz.2.2.2.1 = cn; generalize zz.2.2.2.2.1 = cs; generalize zz.2.2.2.2.2.1 = a; generalize zz.2.2.2.2.2.2.1 = ccd; generalize zz.2.2.2.2.2.2.2.1 = cl; generalize zz.2.2.2.2.2.2.2.2.1 = outer; generalize zz.2.2.2.2.2.2.2.2.2.1 = A₀; generalize zz.2.2.2.2.2.2.2.2.2.2.1 = base; generalize zz.2.2.2.2.2.2.2.2.2.2.2 = h₀; clear zz
  refine pk6 (o := ⟨default, default, default, ({} : Shared), default, default⟩) ?_; generalize pick6 _ _ = zz; generalize zz.1 = L; generalize zz.2.1 = m; generalize zz.2.2.1 = news; generalize zz.2.2.2.1 = s; generalize zz.2.2.2.2.1 = Q; generalize zz.2.2.2.2.2 = E; clear zz
  intro B F X N T hkf hdp hu m1 m2 m3 hret
  have e1 : (Str.ofString "(").length = 1 := by decide
  have e2 : (Str.ofString ")").length = 1 := by decide
  have e3 := b2 node.toNat
  have e4 := b3 node.toNat
  have hB := lineB_le hk7
  simp only [lineB] at hB
  have hz := size_is
  refine wpAny_call ?_
  k_dflt cell_enter
  k_steps
  unfold Halt
  rename_i zv9 zv8 zv7 zv6 zv5 zv4 zv3 zv2 zv1 zv0
  revert zv6 zv5 zv4 zv3 zv2 zv1
  revert zv9 zv8 zv7 qk ek tk zv0
  try walk_at "mine:z"
  refine pk5 ?_; generalize pick5 _ _ = zz; generalize zz.1 = zv9; generalize zz.2.1 = zv8; generalize zz.2.2.1 = zv7; generalize zz.2.2.2.1 = tk; generalize zz.2.2.2.2 = zv0; clear zz
  intro _ _ _ _ _ _
  try k_fold
  refine PyProof.Rows.add_str ?_ (by rw [hz]; (first | exact om210 e1 e3 | omega))
  intro _ _
  k_steps
  unfold Halt
  rename_i zv12 zv11 zv10
  revert zv12 zv11 zv10
  refine pk3 ?_; generalize pick3 _ _ = zz; generalize zz.1 = zv12; generalize zz.2.1 = zv11; generalize zz.2.2 = zv10; clear zz
  refine PyProof.Rows.add_str ?_ (by rw [hz, Str.length_append]; (first | exact om211 e1 e3 e4 | omega))
  intro _ _
  k_steps
  unfold Halt
  rename_i zv25 _ zv24 zv23 zv22 zv21 zv20 zv19 zv18 zv17 zv16 zv15 zv14 zv13
  revert zv23 zv22 zv16 zv15 zv14 zv13
  revert zv25 zv24 tk zv21 zv20 zv19 zv18 zv17
  refine pk8 ?_; generalize pick8 _ _ = zz; generalize zz.1 = zv25; generalize zz.2.1 = zv24; generalize zz.2.2.1 = tk; generalize zz.2.2.2.1 = zv21; generalize zz.2.2.2.2.1 = zv20; generalize zz.2.2.2.2.2.1 = zv19; generalize zz.2.2.2.2.2.2.1 = zv18; generalize zz.2.2.2.2.2.2.2 = zv17; clear zz
  intro _ _ _ _ _ _
  refine rng_st (6 - node).toNat (σ := PySem.Str × Tok) (fun _ => news) (fun c => [(Str.ofString "line", .str c.1 c.2)]) [] (fun i c => c.1 = lineUpTo ab wd pc (lineF ab wd pc k) node i) (_, _) rfl (by assumption) (range_small (by (first | exact om212 h0 h6 | omega)) (by (first | exact om213 h0 h6 | omega)) (by (first | exact om72 | omega)) (by (first | exact om73 | omega))) (range_size (by (first | exact om214 h0 h6 | omega))) (by assumption) (by assumption) (List.forall_mem_cons.mpr ⟨rfl, List.forall_mem_nil _⟩) rfl ?_ ?_
  · intro I i c t u h tk hi hc off F1 N1
    revert hi hc off F1 N1
    revert I i c t u h tk
    refine pk7 ?_; generalize pick7 _ _ = zz; generalize zz.1 = I; generalize zz.2.1 = i; generalize zz.2.2.1 = c; generalize zz.2.2.2.1 = t; generalize zz.2.2.2.2.1 = u; generalize zz.2.2.2.2.2.1 = h; generalize zz.2.2.2.2.2.2 = tk; clear zz
    intro hi hc off F1 N1
    obtain ⟨line, tl⟩ := c
    dsimp only [kstB] at hc F1 N1 off
    simp only [List.contains_nil, Bool.false_eq_true, if_false] at F1
    subst hc
    k_steps
    · unfold Halt
      refine ih _ _ (by (first | exact om68 hk7 | omega)) (by (first | exact om215 h0 h6 (by assumption) | omega)) (by (first | exact om216 hi (by assumption) | omega)) (by (first | exact om217 hk (by assumption) | omega)) _ _ _ _ _ _ _ _ _ _ _ _ _ _ _ _ _ _ (by assumption) (by assumption) (by assumption) (by assumption) (by assumption) rfl ?_ ?_ (by k_mem) (by k_mem) (by k_mem) ?_
      · show dp + 1 + k < _; (first | exact om218 hdp | omega)
      · show un + 3 + 8 * k < _; (first | exact om219 hu | omega)
      · intro t' h' tk' F2 N2
        revert F1 F2 N2
        revert tl t' h' tk'
        refine pk4 ?_; generalize pick4 _ _ = zz; generalize zz.1 = tl; generalize zz.2.1 = t'; generalize zz.2.2.1 = h'; generalize zz.2.2.2 = tk'; clear zz
        intro F1 F2 N2
        (rename ab.getD _ 0 = node => hcond)
        have b5 := lineUpTo_len (ab := ab) (node := node) (f := lineF ab wd pc k) b2 b3 (lineF_len b2 b3 k) h0 i
        have b6 := lineF_len (ab := ab) b2 b3 k (node + 1 + (i : Int)) (by (first | exact om215 h0 h6 hcond | omega))
        have b7 : i * lineB k ≤ 5 * lineB k := Nat.mul_le_mul_right _ (by (first | exact om220 h0 h6 hi hcond | omega))
        refine PyProof.Rows.add_str ?_ (by rw [hz]; (first | exact om221 hB b5 b6 b7 | omega))
        intro _ _
        k_steps
        refine UnrEnd.st (_, _) (by assumption) (by assumption) off (by k_mem) (fun p hp => List.mem_cons_of_mem _ hp) ?_ (List.forall_mem_cons.mpr ⟨rfl, List.forall_mem_nil _⟩) ?_
        · show _ = lineStep _ _ _ _ _
          unfold lineStep
          rw [if_pos hcond]
        · intro z z1 z2 _
          have z4 := z2 _ (List.mem_cons_self ..)
          simp [z1, z4]
    · (rename ab.getD _ 0 ≠ node => hcond)
      refine UnrEnd.st (lineUpTo ab wd pc (lineF ab wd pc k) node i, tl) (by assumption) (by assumption) off (by k_mem) (fun p hp => List.mem_cons_of_mem _ hp) ?_ (List.forall_mem_cons.mpr ⟨rfl, List.forall_mem_nil _⟩) ?_
      · show _ = lineStep _ _ _ _ _
        unfold lineStep
        rw [if_neg hcond]
      · intro z z1 z2 _
        have z4 := z2 _ (List.mem_cons_self ..)
        simp [z1, z4]
  · intro c u h tk hc F1 N1
    revert hc F1 N1
    revert c u h tk
    refine pk4 ?_; generalize pick4 _ _ = zz; generalize zz.1 = c; generalize zz.2.1 = u; generalize zz.2.2.1 = h; generalize zz.2.2.2 = tk; clear zz
    intro hc F1 N1
    obtain ⟨line, tl⟩ := c
    dsimp only [kstB] at hc F1 N1 ⊢
    simp only [List.contains_nil, Bool.false_eq_true, if_false] at F1
    subst hc
    k_steps
    unfold Halt
    revert F1
    revert tl
    refine pk1 ?_; generalize pick1 _ _ = tl
    intro F1
    dsimp only
    have b5 := lineUpTo_len (ab := ab) (node := node) (f := lineF ab wd pc k) b2 b3 (lineF_len b2 b3 k) h0 (6 - node).toNat
    have b7 : (6 - node).toNat * lineB k ≤ 6 * lineB k := Nat.mul_le_mul_right _ (by (first | exact om222 h0 h6 | omega))
    refine PyProof.Rows.add_str ?_ (by rw [hz]; (first | exact om223 e2 hB b5 b7 | omega))
    intro _ _
    k_steps
    exact hret _ _ _ (by assumption) (by assumption)
end Mine
end

section
open PySem PySem.W PyProof.Rows PySem.Calls PySem.Spec
namespace Mine
noncomputable def due (hand : Int) (sign : PySem.Str) : PySem.Str :=
  if sign = PySem.Str.ofString "&" then PySem.Str.ofString "&amp;" else
  if sign = PySem.Str.ofString "\"" then PySem.Str.ofString "&quot;" else
  if sign = PySem.Str.ofString "<" ∧ hand ≠ 1 then PySem.Str.ofString "&lt;" else
  if sign = PySem.Str.ofString ">" ∧ hand ≠ 2 then PySem.Str.ofString "&gt;" else sign
noncomputable def IsSign (x : PySem.Str) : Prop := x = Str.ofString "&" ∨ x = Str.ofString "\"" ∨ x = Str.ofString "<" ∨ x = Str.ofString ">"
section
variable {prog : Program} {w : World} {A : Around} {E : Value → Shared → Prop} {s : Shared} {x y z : PySem.Str} {t u v : Tok} {Q : Value → Shared → Prop}
theorem in_str_t (hb : (Builtin.Str.occurrences x y 0 x.length 1).isEmpty = false) (h : Q (.bool true) s) : wpAny (model prog w) A (compareOp .In (.str y u) (.str x t)) Q E s :=
  PyProof.Rows.in_str (by rw [hb]; exact h)
theorem in_str_f (hb : (Builtin.Str.occurrences x y 0 x.length 1).isEmpty = true) (h : Q (.bool false) s) : wpAny (model prog w) A (compareOp .In (.str y u) (.str x t)) Q E s :=
  PyProof.Rows.in_str (by rw [hb]; exact h)
theorem replace_is {r : PySem.Str} {Q : Value → Shared → Prop} (hu : @Ne Nat u 0) (hv : @Ne Nat v 0) (huv : @Ne Nat u v) (hyz : (y == z) = false) (hb : x.length + (x.length + 1) * z.length ≤ 16777216) (hr : Txt.replace x y z = r)
    (hq : ∀ t' k, s.toks ≤ k → Q (.str r t') { s with toks := k }) : wpAny (model prog w) A (call (.builtin "str.replace") [.str x t, .str y u, .str z v]) Q E s :=
  wpAny_with_toks (Nat.le_refl _) (SC.replace hu hv huv hyz hb fun t' k hk => by rw [hr]; exact hq t' k hk)
end
local macro_rules | `(tactic| walk_at "compareOp In") => `(tactic| walk_at "mine:r4")
local macro_rules | `(tactic| walk_at "compareOp In str str") => `(tactic| walk_at "mine:r4")
local macro_rules | `(tactic| walk_at "execs cons") => `(tactic| (refine wpAny_execs_cons ?_))
local macro_rules | `(tactic| walk_at "execs nil") => `(tactic| (refine wpAny_execs_nil ?_))
local macro_rules | `(tactic| walk_at "call builtin:str.replace") => `(tactic| (k_here; (first
  | refine replace_is (r := Str.ofString "&amp;") (by omega) (by omega) (by omega) (by decide +kernel) (by decide +kernel) (by decide +kernel) ?_
  | refine replace_is (r := Str.ofString "&quot;") (by omega) (by omega) (by omega) (by decide +kernel) (by decide +kernel) (by decide +kernel) ?_
  | refine replace_is (r := Str.ofString "&lt;") (by omega) (by omega) (by omega) (by decide +kernel) (by decide +kernel) (by decide +kernel) ?_
  | refine replace_is (r := Str.ofString "&gt;") (by omega) (by omega) (by omega) (by decide +kernel) (by decide +kernel) (by decide +kernel) ?_); intro _ _ _))
theorem esc0_tells (w : World) (mean : ExcName → Option Value) (mg mb : PySem.Str → Option Value) (sign : PySem.Str) (t2 : Tok) (hs : IsSign sign) : 
  ∀ (dp un : Nat) (gd : Option (List Code)) (cn : PySem.Str) (cs : Scope) (a : Addr) (ccd : Value) (cl : List (PySem.Str × Addr)) (outer : List Env) (A₀ : Around) (base h₀ : Heap) (L : Addr) (m : PySem.Str → Option Value) (news : List (Addr × Obj)) (s : Shared)
    (Q E : Value → Shared → Prop),
    Below A₀ base outer h₀ → Fr h₀ L s.heap m → (Mine.hd.heap_39 w.params).In h₀ → News h₀ L s.heap news → Top topProg lzz mean mg mb h₀ → cs.kind = .function → dp + 1 < recursionLimit → un + 8 < cLine →
    (∀ t h' tk', Fr h₀ L h' m → News h₀ L h' news → Q (.str (due 0 sign) t) { s with heap := h', toks := tk' }) →
    wpAny (model Challenge.rw_ux0024_01.row.toRowW.prog w) (ktrTop dp un gd cn cs L a ccd cl outer) (call (.ref 147) [.str sign t2]) Q E s := by
  k_fill
  revert hs
  revert lzz w mean mg mb sign t2
  refine @pk7 _ _ _ _ _ _ _  ⟨default, (aWorld 0), default, default, default, default, default⟩ _ ?_; generalize pick7 _ _ = zz; generalize zz.1 = lzz; generalize zz.2.1 = w; generalize zz.2.2.1 = mean; generalize zz.2.2.2.1 = mg; generalize zz.2.2.2.2.1 = mb; generalize zz.2.2.2.2.2.1 = sign; generalize zz.2.2.2.2.2.2 = t2; clear zz
  intro hs
  intro dp un gd cn cs a ccd cl outer A₀ base h₀ L m news s Q E B F X N T hk hdp hu hret
  revert B F X N T hk hdp hu hret
  revert dp un gd cn cs a ccd cl outer A₀ base h₀ L m news s Q E
  refine pk12 (o := ⟨default, default, default, default, default, default, default, default, default, callerA, default, default⟩) ?_; generalize pick12 _ _ = zz; generalize zz.1 = dp; generalize zz.2.1 = un; generalize zz.2.2.1 = gd; generalize zz.2.2.2.1 = cn; generalize zz.2.2.2.2.1 = cs; generalize zz.2.2.2.2.2.1 = a; generalize zz.2.2.2.2.2.2.1 = ccd; generalize zz.2.2.2.2.2.2.2.1 = cl; generalize zz.2.2.2.2.2.2.2.2.1 = outer; generalize zz.2.2.2.2.2.2.2.2.2.1 = A₀; generalize zz.2.2.2.2.2.2.2.2.2.2.1 = base; generalize zz.2.2.2.2.2.2.2.2.2.2.2 = h₀; clear zz
  refine pk6 (o := ⟨default, default, default, ({} : Shared), default, default⟩) ?_; generalize pick6 _ _ = zz; generalize zz.1 = L; generalize zz.2.1 = m; generalize zz.2.2.1 = news; generalize zz.2.2.2.1 = s; generalize zz.2.2.2.2.1 = Q; generalize zz.2.2.2.2.2 = E; clear zz
  intro B F X N T hk hdp hu hret
  refine wpAny_call ?_
  k_dflt cell_enter
  rcases hs with rfl | rfl | rfl | rfl
  all_goals k_steps
  · rw [show due 0 (Str.ofString "&") = Str.ofString "&amp;" by decide +kernel] at hret
    exact hret _ _ _ (by assumption) (by assumption)
  · rw [show due 0 (Str.ofString "\"") = Str.ofString "&quot;" by decide +kernel] at hret
    exact hret _ _ _ (by assumption) (by assumption)
  · rw [show due 0 (Str.ofString "<") = Str.ofString "&lt;" by decide +kernel] at hret
    exact hret _ _ _ (by assumption) (by assumption)
  · rw [show due 0 (Str.ofString ">") = Str.ofString "&gt;" by decide +kernel] at hret
    exact hret _ _ _ (by assumption) (by assumption)
theorem esc1_tells (w : World) (mean : ExcName → Option Value) (mg mb : PySem.Str → Option Value) (sign : PySem.Str) (t2 : Tok) (hs : IsSign sign) : 
  ∀ (dp un : Nat) (gd : Option (List Code)) (cn : PySem.Str) (cs : Scope) (a : Addr) (ccd : Value) (cl : List (PySem.Str × Addr)) (outer : List Env) (A₀ : Around) (base h₀ : Heap) (L : Addr) (m : PySem.Str → Option Value) (news : List (Addr × Obj)) (s : Shared)
    (Q E : Value → Shared → Prop),
    Below A₀ base outer h₀ → Fr h₀ L s.heap m → (Mine.hd.heap_39 w.params).In h₀ → News h₀ L s.heap news → Top topProg lzz mean mg mb h₀ → cs.kind = .function → dp + 1 < recursionLimit → un + 8 < cLine →
    (∀ t h' tk', Fr h₀ L h' m → News h₀ L h' news → Q (.str (due 1 sign) t) { s with heap := h', toks := tk' }) →
    wpAny (model Challenge.rw_ux0024_01.row.toRowW.prog w) (ktrTop dp un gd cn cs L a ccd cl outer) (call (.ref 154) [.str sign t2]) Q E s := by
  k_fill
  revert hs
  revert lzz w mean mg mb sign t2
  refine @pk7 _ _ _ _ _ _ _  ⟨default, (aWorld 0), default, default, default, default, default⟩ _ ?_; generalize pick7 _ _ = zz; generalize zz.1 = lzz; generalize zz.2.1 = w; generalize zz.2.2.1 = mean; generalize zz.2.2.2.1 = mg; generalize zz.2.2.2.2.1 = mb; generalize zz.2.2.2.2.2.1 = sign; generalize zz.2.2.2.2.2.2 = t2; clear zz
  intro hs
  intro dp un gd cn cs a ccd cl outer A₀ base h₀ L m news s Q E B F X N T hk hdp hu hret
  revert B F X N T hk hdp hu hret
  revert dp un gd cn cs a ccd cl outer A₀ base h₀ L m news s Q E
  refine pk12 (o := ⟨default, default, default, default, default, default, default, default, default, callerA, default, default⟩) ?_; generalize pick12 _ _ = zz; generalize zz.1 = dp; generalize zz.2.1 = un; generalize zz.2.2.1 = gd; generalize zz.2.2.2.1 = cn; generalize zz.2.2.2.2.1 = cs; generalize zz.2.2.2.2.2.1 = a; generalize zz.2.2.2.2.2.2.1 = ccd; generalize zz.2.2.2.2.2.2.2.1 = cl; generalize zz.2.2.2.2.2.2.2.2.1 = outer; generalize zz.2.2.2.2.2.2.2.2.2.1 = A₀; generalize zz.2.2.2.2.2.2.2.2.2.2.1 = base; generalize zz.2.2.2.2.2.2.2.2.2.2.2 = h₀; clear zz
  refine pk6 (o := ⟨default, default, default, ({} : Shared), default, default⟩) ?_; generalize pick6 _ _ = zz; generalize zz.1 = L; generalize zz.2.1 = m; generalize zz.2.2.1 = news; generalize zz.2.2.2.1 = s; generalize zz.2.2.2.2.1 = Q; generalize zz.2.2.2.2.2 = E; clear zz
  intro B F X N T hk hdp hu hret
  refine wpAny_call ?_
  k_dflt cell_enter
  rcases hs with rfl | rfl | rfl | rfl
  all_goals k_steps
  · rw [show due 1 (Str.ofString "&") = Str.ofString "&amp;" by decide +kernel] at hret
    exact hret _ _ _ (by assumption) (by assumption)
  · rw [show due 1 (Str.ofString "\"") = Str.ofString "&quot;" by decide +kernel] at hret
    exact hret _ _ _ (by assumption) (by assumption)
  · rw [show due 1 (Str.ofString "<") = Str.ofString "<" by decide +kernel] at hret
    exact hret _ _ _ (by assumption) (by assumption)
  · rw [show due 1 (Str.ofString ">") = Str.ofString "&gt;" by decide +kernel] at hret
    exact hret _ _ _ (by assumption) (by assumption)
theorem esc2_tells (w : World) (mean : ExcName → Option Value) (mg mb : PySem.Str → Option Value) (sign : PySem.Str) (t2 : Tok) (hs : IsSign sign) : 
  ∀ (dp un : Nat) (gd : Option (List Code)) (cn : PySem.Str) (cs : Scope) (a : Addr) (ccd : Value) (cl : List (PySem.Str × Addr)) (outer : List Env) (A₀ : Around) (base h₀ : Heap) (L : Addr) (m : PySem.Str → Option Value) (news : List (Addr × Obj)) (s : Shared)
    (Q E : Value → Shared → Prop),
    Below A₀ base outer h₀ → Fr h₀ L s.heap m → (Mine.hd.heap_39 w.params).In h₀ → News h₀ L s.heap news → Top topProg lzz mean mg mb h₀ → cs.kind = .function → dp + 1 < recursionLimit → un + 8 < cLine →
    (∀ t h' tk', Fr h₀ L h' m → News h₀ L h' news → Q (.str (due 2 sign) t) { s with heap := h', toks := tk' }) →
    wpAny (model Challenge.rw_ux0024_01.row.toRowW.prog w) (ktrTop dp un gd cn cs L a ccd cl outer) (call (.ref 161) [.str sign t2]) Q E s := by
  k_fill
  revert hs
  revert lzz w mean mg mb sign t2
  refine @pk7 _ _ _ _ _ _ _  ⟨default, (aWorld 0), default, default, default, default, default⟩ _ ?_; generalize pick7 _ _ = zz; generalize zz.1 = lzz; generalize zz.2.1 = w; generalize zz.2.2.1 = mean; generalize zz.2.2.2.1 = mg; generalize zz.2.2.2.2.1 = mb; generalize zz.2.2.2.2.2.1 = sign; generalize zz.2.2.2.2.2.2 = t2; clear zz
  intro hs
  intro dp un gd cn cs a ccd cl outer A₀ base h₀ L m news s Q E B F X N T hk hdp hu hret
  revert B F X N T hk hdp hu hret
  revert dp un gd cn cs a ccd cl outer A₀ base h₀ L m news s Q E
  refine pk12 (o := ⟨default, default, default, default, default, default, default, default, default, callerA, default, default⟩) ?_; generalize pick12 _ _ = zz; generalize zz.1 = dp; generalize zz.2.1 = un; generalize zz.2.2.1 = gd; generalize zz.2.2.2.1 = cn; generalize zz.2.2.2.2.1 = cs; generalize zz.2.2.2.2.2.1 = a; generalize zz.2.2.2.2.2.2.1 = ccd; generalize zz.2.2.2.2.2.2.2.1 = cl; generalize zz.2.2.2.2.2.2.2.2.1 = outer; generalize zz.2.2.2.2.2.2.2.2.2.1 = A₀; generalize zz.2.2.2.2.2.2.2.2.2.2.1 = base; generalize zz.2.2.2.2.2.2.2.2.2.2.2 = h₀; clear zz
  refine pk6 (o := ⟨default, default, default, ({} : Shared), default, default⟩) ?_; generalize pick6 _ _ = zz; generalize zz.1 = L; generalize zz.2.1 = m; generalize zz.2.2.1 = news; generalize zz.2.2.2.1 = s; generalize zz.2.2.2.2.1 = Q; generalize zz.2.2.2.2.2 = E; clear zz
  intro B F X N T hk hdp hu hret
  refine wpAny_call ?_
  k_dflt cell_enter
  rcases hs with rfl | rfl | rfl | rfl
  all_goals k_steps
  · rw [show due 2 (Str.ofString "&") = Str.ofString "&amp;" by decide +kernel] at hret
    exact hret _ _ _ (by assumption) (by assumption)
  · rw [show due 2 (Str.ofString "\"") = Str.ofString "&quot;" by decide +kernel] at hret
    exact hret _ _ _ (by assumption) (by assumption)
  · rw [show due 2 (Str.ofString "<") = Str.ofString "&lt;" by decide +kernel] at hret
    exact hret _ _ _ (by assumption) (by assumption)
  · rw [show due 2 (Str.ofString ">") = Str.ofString ">" by decide +kernel] at hret
    exact hret _ _ _ (by assumption) (by assumption)

local macro_rules | `(tactic| walk_at "call ref") => `(tactic| (refine Halt.mk ?_))
theorem hand_tells (w : World) (mean : ExcName → Option Value) (mg mb : PySem.Str → Option Value) (hand : Int) (t1 : Tok) (hh : hand = 0 ∨ hand = 1 ∨ hand = 2) (sign : PySem.Str) (t2 : Tok) (hs : IsSign sign) : 
  ∀ (dp un : Nat) (gd : Option (List Code)) (cn : PySem.Str) (cs : Scope) (a : Addr) (ccd : Value) (cl : List (PySem.Str × Addr)) (outer : List Env) (A₀ : Around) (base h₀ : Heap) (L : Addr) (m : PySem.Str → Option Value) (news : List (Addr × Obj)) (s : Shared)
    (Q E : Value → Shared → Prop),
    Below A₀ base outer h₀ → Fr h₀ L s.heap m → (Mine.hd.heap_39 w.params).In h₀ → News h₀ L s.heap news → Top topProg lzz mean mg mb h₀ → cs.kind = .function → dp + 2 < recursionLimit → un + 16 < cLine →
    (∀ t h' tk', Fr h₀ L h' m → News h₀ L h' news → Q (.str (due hand sign) t) { s with heap := h', toks := tk' }) →
    wpAny (model Challenge.rw_ux0024_01.row.toRowW.prog w) (ktrTop dp un gd cn cs L a ccd cl outer) (call (.ref 175) [.int hand t1, .str sign t2]) Q E s := by
  k_fill
  revert hh hs
  revert lzz w mean mg mb hand t1 sign t2
  refine @pk9 _ _ _ _ _ _ _ _ _  ⟨default, (aWorld 0), default, default, default, default, default, default, default⟩ _ ?_; generalize pick9 _ _ = zz; generalize zz.1 = lzz; generalize zz.2.1 = w; generalize zz.2.2.1 = mean; generalize zz.2.2.2.1 = mg; generalize zz.2.2.2.2.1 = mb; generalize zz.2.2.2.2.2.1 = hand; generalize zz.2.2.2.2.2.2.1 = t1; generalize zz.2.2.2.2.2.2.2.1 = sign; generalize zz.2.2.2.2.2.2.2.2 = t2; clear zz
  intro hh hs
  intro dp un gd cn cs a ccd cl outer A₀ base h₀ L m news s Q E B F X N T hk hdp hu hret
  revert B F X N T hk hdp hu hret
  revert dp un gd cn cs a ccd cl outer A₀ base h₀ L m news s Q E
  refine pk12 (o := ⟨default, default, default, default, default, default, default, default, default, callerA, default, default⟩) ?_; generalize pick12 _ _ = zz; generalize zz.1 = dp; generalize zz.2.1 = un; generalize zz.2.2.1 = gd; generalize zz.2.2.2.1 = cn; generalize zz.2.2.2.2.1 = cs; generalize zz.2.2.2.2.2.1 = a; generalize zz.2.2.2.2.2.2.1 = ccd; generalize zz.2.2.2.2.2.2.2.1 = cl; generalize zz.2.2.2.2.2.2.2.2.1 = outer; generalize zz.2.2.2.2.2.2.2.2.2.1 = A₀; generalize zz.2.2.2.2.2.2.2.2.2.2.1 = base; generalize zz.2.2.2.2.2.2.2.2.2.2.2 = h₀; clear zz
  refine pk6 (o := ⟨default, default, default, ({} : Shared), default, default⟩) ?_; generalize pick6 _ _ = zz; generalize zz.1 = L; generalize zz.2.1 = m; generalize zz.2.2.1 = news; generalize zz.2.2.2.1 = s; generalize zz.2.2.2.2.1 = Q; generalize zz.2.2.2.2.2 = E; clear zz
  intro B F X N T hk hdp hu hret
  refine wpAny_call ?_
  k_dflt cell_enter
  rcases hh with rfl | rfl | rfl
  all_goals k_steps
  · unfold Halt
    refine esc0_tells w mean mg mb sign t2 hs _ _ _ _ _ _ _ _ _ _ _ _ _ _ _ _ _ _ (by assumption) (by assumption) (by assumption) (by assumption) (by assumption) rfl (by show dp + 1 + 1 < _; (first | exact om99 hdp | omega)) (by show un + 3 + 8 < _; (first | exact om100 hu | omega)) ?_
    intro t' h' tk' F2 N2
    k_steps
    exact hret _ _ _ (by assumption) (by assumption)
  · unfold Halt
    refine esc1_tells w mean mg mb sign t2 hs _ _ _ _ _ _ _ _ _ _ _ _ _ _ _ _ _ _ (by assumption) (by assumption) (by assumption) (by assumption) (by assumption) rfl (by show dp + 1 + 1 < _; (first | exact om99 hdp | omega)) (by show un + 3 + 8 < _; (first | exact om100 hu | omega)) ?_
    intro t' h' tk' F2 N2
    k_steps
    exact hret _ _ _ (by assumption) (by assumption)
  · unfold Halt
    refine esc2_tells w mean mg mb sign t2 hs _ _ _ _ _ _ _ _ _ _ _ _ _ _ _ _ _ _ (by assumption) (by assumption) (by assumption) (by assumption) (by assumption) rfl (by show dp + 1 + 1 < _; (first | exact om99 hdp | omega)) (by show un + 3 + 8 < _; (first | exact om100 hu | omega)) ?_
    intro t' h' tk' F2 N2
    k_steps
    exact hret _ _ _ (by assumption) (by assumption)
theorem due_tells (w : World) (mean : ExcName → Option Value) (mg mb : PySem.Str → Option Value) (hand : Int) (t1 : Tok) (sign : PySem.Str) (t2 : Tok) : 
  ∀ (dp un : Nat) (gd : Option (List Code)) (cn : PySem.Str) (cs : Scope) (a : Addr) (ccd : Value) (cl : List (PySem.Str × Addr)) (outer : List Env) (A₀ : Around) (base h₀ : Heap) (L : Addr) (m : PySem.Str → Option Value) (news : List (Addr × Obj)) (s : Shared)
    (Q E : Value → Shared → Prop),
    Below A₀ base outer h₀ → Fr h₀ L s.heap m → (Mine.hd.heap_39 w.params).In h₀ → News h₀ L s.heap news → Top topProg lzz mean mg mb h₀ → cs.kind = .function → dp + 1 < recursionLimit → un + 8 < cLine →
    (∀ t h' tk', Fr h₀ L h' m → News h₀ L h' news → Q (.str (due hand sign) t) { s with heap := h', toks := tk' }) →
    wpAny (model Challenge.rw_ux0024_01.row.toRowW.prog w) (ktrTop dp un gd cn cs L a ccd cl outer) (call (.ref 182) [.int hand t1, .str sign t2]) Q E s := by
  k_fill
  revert lzz w mean mg mb hand t1 sign t2
  refine @pk9 _ _ _ _ _ _ _ _ _  ⟨default, (aWorld 0), default, default, default, default, default, default, default⟩ _ ?_; generalize pick9 _ _ = zz; generalize zz.1 = lzz; generalize zz.2.1 = w; generalize zz.2.2.1 = mean; generalize zz.2.2.2.1 = mg; generalize zz.2.2.2.2.1 = mb; generalize zz.2.2.2.2.2.1 = hand; generalize zz.2.2.2.2.2.2.1 = t1; generalize zz.2.2.2.2.2.2.2.1 = sign; generalize zz.2.2.2.2.2.2.2.2 = t2; clear zz
  intro dp un gd cn cs a ccd cl outer A₀ base h₀ L m news s Q E B F X N T hk hdp hu hret
  revert B F X N T hk hdp hu hret
  revert dp un gd cn cs a ccd cl outer A₀ base h₀ L m news s Q E
  refine pk12 (o := ⟨default, default, default, default, default, default, default, default, default, callerA, default, default⟩) ?_; generalize pick12 _ _ = zz; generalize zz.1 = dp; generalize zz.2.1 = un; generalize zz.2.2.1 = gd; generalize zz.2.2.2.1 = cn; generalize zz.2.2.2.2.1 = cs; generalize zz.2.2.2.2.2.1 = a; generalize zz.2.2.2.2.2.2.1 = ccd; generalize zz.2.2.2.2.2.2.2.1 = cl; generalize zz.2.2.2.2.2.2.2.2.1 = outer; generalize zz.2.2.2.2.2.2.2.2.2.1 = A₀; generalize zz.2.2.2.2.2.2.2.2.2.2.1 = base; generalize zz.2.2.2.2.2.2.2.2.2.2.2 = h₀; clear zz
  refine pk6 (o := ⟨default, default, default, ({} : Shared), default, default⟩) ?_; generalize pick6 _ _ = zz; generalize zz.1 = L; generalize zz.2.1 = m; generalize zz.2.2.1 = news; generalize zz.2.2.2.1 = s; generalize zz.2.2.2.2.1 = Q; generalize zz.2.2.2.2.2 = E; clear zz
  intro B F X N T hk hdp hu hret
  refine wpAny_call ?_
  k_dflt cell_enter
  unfold due at hret
  k_steps
  all_goals simp_all
  all_goals exact hret _ _ _ (by assumption) (by assumption)
end Mine
end

section
open PySem PySem.W PyProof.Rows PySem.Calls PySem.Spec
namespace Mine
section
variable {M : Model} {A : Around} {R : GenEnd} {Y : Protocol} {n : Nat} {s₀ : Shared} {c : Code} {fs : List Frame} {s : Shared} {env : Env}
  {K : Flow → Sem Fin} {H : Value → Sem Fin} {gd : Bool → Bool} {lv : List Value → List Value}
theorem seg_If {test : PySem.Expr} {body orelse : List Stmt} {pos : Pos}
    (h : wpAny M (A.over c fs) (isTrue test env (eval test env)) (fun b s' => Seg M A R Y n s₀ c ((execs (if b = true then body else orelse) env).wrap K H gd lv) fs s') (fun x s' => Seg M A R Y n s₀ c (H x) fs s') s) :
    Seg M A R Y n s₀ c ((exec (.If test body orelse pos) env).wrap K H gd lv) fs s := by
  have e : exec (.If test body orelse pos) env = (do
    standAt pos
    if ← isTrue test env (eval test env) then execs body env else execs orelse env) := exec_If ..
  rw [e]
  refine seg_at (p' := pos) (k := fun _ => ((isTrue test env (eval test env)) >>= fun b => if b = true then execs body env else execs orelse env).wrap K H gd lv) ?_
  rw [Sem.bind_eq_wrap', Sem.wrap_wrap]
  refine seg_wrap (wpAny_mono h (fun b s' h' => ?_) fun _ _ h' => h')
  cases b with
  | true => simpa only [if_true] using h'
  | false => simpa only [Bool.false_eq_true, if_false] using h'

/-- what runs behind a loop's own activation -/
noncomputable def kontOf (env : Env) (K : Flow → Sem Fin) (H : Value → Sem Fin) (gd : Bool → Bool) (lv : List Value → List Value) : Result → Sem Fin := fun r =>
  ((match r with | .ok f => (.pure f : Sem Flow) | .error e => .raise e).onRaise fun (x : Value) => do
        if (← field x 1) == Value.none then unsupported "frame.own-activation:exception-without-traceback"
        setFlight x env.frame).wrap K H gd lv
theorem seg_For {target iter : PySem.Expr} {body : List Stmt} {pos : Pos}
    (h : wpAny M (A.over c fs) (eval iter env) (fun x s₁ => wpAny M (A.over c fs) (pyIter x) (fun it s₂ =>
      ∀ p, Seg M A R Y n s₀ (.forLoop target it body [] env) (M.den (.forLoop target it body [] env)) (.ret (kontOf env K H gd lv) none (gd false) (lv []) c p [] :: fs) s₂) (fun x s' => Seg M A R Y n s₀ c (H x) fs s') s₁) (fun x s' => Seg M A R Y n s₀ c (H x) fs s') s)
    (hs : ∀ x, foldedSetIterable iter env x = pure x := by intro _; rfl) :
    Seg M A R Y n s₀ c ((exec (.For target iter body [] pos) env).wrap K H gd lv) fs s := by
  rw [exec_For]
  refine seg_at (p' := pos) (k := fun _ => (eval iter env >>= fun x => foldedSetIterable iter env x >>= fun x => standAt iter.pos >>= fun _ => holding [x] (pyIter x) >>= fun it => runOwn (.forLoop target it body [] env) env).wrap K H gd lv) ?_
  rw [Sem.bind_eq_wrap', Sem.wrap_wrap]
  refine seg_wrap (wpAny_mono h (fun x s₁ h₁ => ?_) fun _ _ h' => h')
  rw [hs x]
  show Seg M A R Y n s₀ c ((standAt iter.pos >>= fun _ => holding [x] (pyIter x) >>= fun it => runOwn (.forLoop target it body [] env) env).wrap _ _ _ _) fs s₁
  refine seg_at (p' := iter.pos) (k := fun _ => (holding [x] (pyIter x) >>= fun it => runOwn (.forLoop target it body [] env) env).wrap _ _ _ _) ?_
  rw [Sem.bind_eq_wrap', Sem.wrap_wrap]
  refine seg_wrap (wpAny_holding (wpAny_mono h₁ (fun it s₂ h₂ => ?_) fun _ _ h' => h'))
  exact seg_call h₂
end
section
variable {prog : Program} {w : World} {A : Around} {R : GenEnd} {Y : Protocol} {n : Nat} {s₀ : Shared} {fs : List Frame} {s : Shared} {env : Env}
/-- the ways out of a turn's body -/
noncomputable def turnK (target : PySem.Expr) (it : Value) (body : List Stmt) (env : Env) : Flow → Sem Fin := fun f => match f with
  | .next | .cont => .pure (.again (.forLoop target it body [] env))
  | .brk => .pure (.done .next)
  | .ret v => .pure (.done (.ret v))
noncomputable def turnH (env : Env) : Value → Sem Fin := fun e => (do noteFrame e env; theTreesLotGoes e : Sem Unit).wrap (fun _ => .raise e) .raise id id
theorem seg_forLoop {target : PySem.Expr} {it : Value} {body : List Stmt}
    (h : wpAny (model prog w) (A.over (.forLoop target it body [] env) fs) (pyNext it) (fun o s₁ => match o with
      | none => Seg (model prog w) A R Y n s₀ (.forLoop target it body [] env) (.pure (.again (.block [] env))) fs s₁
      | some v => wpAny (model prog w) (A.over (.forLoop target it body [] env) fs) (letOwnedTupleGo target it v) (fun _ s₂ => wpAny (model prog w) (A.over (.forLoop target it body [] env) fs) (assign target env v) (fun _ s₃ =>
          Seg (model prog w) A R Y n s₀ (.forLoop target it body [] env) ((execs body env).wrap (turnK target it body env) (turnH env) id id) fs s₃) (fun _ _ => False) s₂) (fun _ _ => False) s₁) (fun _ _ => False) s) :
    Seg (model prog w) A R Y n s₀ (.forLoop target it body [] env) ((model prog w).den (.forLoop target it body [] env)) fs s := by
  show Seg _ A R Y n s₀ _ ((forTurn target it body [] env).onRaise (fun x => do noteFrame x env; theTreesLotGoes x)) fs s
  unfold forTurn
  rw [Sem.onRaise_eq_wrap]
  refine seg_at (p' := target.pos) (k := fun _ => ((pyNext it).onRaise (fun _ => standAt { target.pos with line := 0 }) >>= fun o => _).wrap _ _ _ _) ?_
  rw [Sem.bind_eq_wrap', Sem.wrap_wrap]
  refine seg_wrap (wpAny_onRaise (wpAny_mono h (fun o s₁ h₁ => ?_) fun _ _ h' => h'.elim))
  cases o with
  | none => exact h₁
  | some v =>
    show Seg _ A R Y n s₀ _ ((letOwnedTupleGo target it v >>= fun _ => assign target env v >>= fun _ => execs body env >>= fun f => _).wrap _ _ _ _) fs s₁
    rw [Sem.bind_eq_wrap', Sem.wrap_wrap]
    refine seg_wrap (wpAny_mono h₁ (fun _ s₂ h₂ => ?_) fun _ _ h' => h'.elim)
    rw [Sem.bind_eq_wrap', Sem.wrap_wrap]
    refine seg_wrap (wpAny_mono h₂ (fun _ s₃ h₃ => ?_) fun _ _ h' => h'.elim)
    rw [Sem.bind_eq_wrap', Sem.wrap_wrap]
    rw [Sem.wrap_congr (execs body env) _ _ (K' := turnK target it body env) (H' := turnH env) (fun f => by cases f <;> rfl)
      (fun e => by first | exact Sem.bind_eq_wrap _ _ | (show (do noteFrame e env; theTreesLotGoes e : Sem Unit).bind (fun _ => .raise e) = _; rw [Sem.bind_eq_wrap]; rfl))]
    exact h₃
end
end Mine
end

section
open PySem PySem.W PyProof.Rows PySem.Calls PySem.Spec
namespace Mine
section
variable {prog : Program} {w : World} {A : Around} {s : Shared} {env : Env} {h₀ : Heap}
/-- one item of an iterator of pairs, drawn and laid into two names -/
theorem pull_pair {G Z : Shared → Prop} {E : Value → Shared → Prop} {xi xc : PySem.Str} {pk pv pt : Pos} {x1 : Nat} {I : Addr} {fp wr : List Addr} {n : Nat} {Pt : Nat → Array Value → Prop} {St : Nat → Heap → Prop} {Mid : Nat → Addr → Heap → Prop}
    {P2 : Nat → Value → Value → Prop} {m : PySem.Str → Option Value} (hh : A.handled = none) (W : WalksT prog w A I fp wr n Pt St Mid) (h2 : ∀ i vals, Pt i vals → ∃ v0 v1, vals = #[v0, v1] ∧ P2 i v0 v1)
    (hxi : env.kindOf xi = some .local) (hxc : env.kindOf xc = some .local)
    (hp : (env.scope.kind == .class || (env.scope.kind == .module && env.locals != env.globals)) = false)
    (hLf : env.locals ∉ fp) (hwr : ∀ b ∈ wr, h₀.get? b = none) {i : Nat} (hlt : i < n) (hst : St i s.heap) (F : Fr h₀ env.locals s.heap m)
    (hQ : ∀ v0 v1 h tk, P2 i v0 v1 → St (i + 1) h → Fr h₀ env.locals h (fun y => if y = xc then some v1 else if y = xi then some v0 else m y) →
      (∀ b o, b ∉ wr → b ≠ env.locals → s.heap.get? b = some o → h.get? b = some o) → Z { s with heap := h, toks := tk }) :
    wpAny (model prog w) A (pyNext (.ref I)) (fun o s₁ => match o with
      | none => G s₁
      | some v => wpAny (model prog w) A (letOwnedTupleGo (.Tuple [.Name xi pk, .Name xc pv] x1 pt) (.ref I) v) (fun _ s₂ => wpAny (model prog w) A (assign (.Tuple [.Name xi pk, .Name xc pv] x1 pt) env v) (fun _ s₃ => Z s₃) E s₂) E s₁) E s := by
  have hLw : env.locals ∉ wr := fun h => hLf (W.sub _ h)
  have old : ∀ b o, h₀.get? b = some o → b ∉ wr := fun b o e hb => by rw [hwr b hb] at e; cases e
  refine W.item i _ _ _ hlt hst fun T vals h₁ tk₁ hPt _ hT hMid hk₁ => ?_
  obtain ⟨v0, v1, rfl, hP2⟩ := h2 i vals hPt
  refine W.go _ x1 pt i T _ _ _ hMid fun h₂' hst₂ hk₂ => ?_
  have ht₂ : h₂'.IsTuple T #[v0, v1] := hT.at fun o e => hk₂ T o (W.apart i T h₁ hMid) e
  refine wpAny_assign_Tuple hh ht₂ rfl rfl fun h₃ hx₃ => ?_
  replace hx₃ : Heap.ExtBut h₂'.objs.size h₂' h₃ := hx₃
  have up₃ : ∀ b o, h₂'.get? b = some o → h₃.get? b = some o := fun b o x => hx₃ b o (Nat.ne_of_lt (Heap.lt_size x)) x
  have up : ∀ b o, b ∉ wr → s.heap.get? b = some o → h₃.get? b = some o := fun b o hb x => up₃ b o (hk₂ b o hb (hk₁ b o hb x))
  have F₃ : Fr h₀ env.locals h₃ m := ⟨F.ns.at' fun o e => up _ o hLw e, fun b o e => up b o (old b o e) (F.keep b o e), F.above⟩
  show wpAny _ A (do holding [v1] (assign (.Name xi pk) env v0); do holding [] (assign (.Name xc pv) env v1); pure ()) _ _ _
  refine wpAny_bind (wpAny_holding (wpAny_assign_Name (wpAny_storeName_local hxi F₃.ns (fun h₄ hn₄ hs₄ => ?_) hp)))
  replace hs₄ : Heap.SameBut env.locals h₃ h₄ := hs₄
  have F₄ := F₃.set hn₄ hs₄
  refine wpAny_bind (wpAny_holding (wpAny_assign_Name (wpAny_storeName_local hxc F₄.ns (fun h₅ hn₅ hs₅ => wpAny_pure ?_) hp)))
  replace hs₅ : Heap.SameBut env.locals h₄ h₅ := hs₅
  have F₅ := F₄.set hn₅ hs₅
  have up₅ : ∀ b o, b ≠ env.locals → h₃.get? b = some o → h₅.get? b = some o := fun b o hb x => hs₅.extBut b o hb (hs₄.extBut b o hb x)
  have hst₅ : St (i + 1) h₅ := W.frame _ _ _ hst₂ fun b hb o e => up₅ b o (fun q => hLf (q ▸ hb)) (up₃ b o e)
  exact hQ v0 v1 h₅ _ hP2 hst₅ F₅ fun b o hb hl x => up₅ b o hl (up b o hb x)

/-- a generator function is called: nothing of its body runs -/
theorem code_gen {R : Result → Shared → Prop} {a : Addr} {o : Obj} {fd : FuncData} {body : List Stmt} {args : Args} {binds : List (PySem.Str × Value)}
    (hroom : A.depth < recursionLimit) (ho : s.heap.get? a = some o) (hdata : o.data = .func fd) (hlim : s.heap.NoLimit) (hcd : s.heap.CodeRec fd.code fd.qualname)
    (hbody : fd.body = .stmts body) (hbind : BindsTo s fd args binds)
    (hcell : ∀ x ∈ fd.scope.names, x.2 ≠ .cell) (hloc : ∀ x ∈ binds, fd.scope.names.lookup x.1 = some .local)
    (h : ∀ (h₁ : Heap) (tk : Nat) (nm qn : Value), h₁.Ns s.heap.objs.size (fun x => binds.reverse.lookup x) → (∀ b o, s.heap.get? b = some o → h₁.get? b = some o) → s.heap.objs.size < h₁.objs.size →
      R (.ok (.ret (.ref h₁.objs.size))) { s with gens := s.gens.push (.fresh (.func body (callEnv fd s.heap.objs.size a))), toks := tk, heap := h₁.push { cls := .type "generator", data := .fields #[.int s.gens.size 0, nm, qn] } })
    (hco : fd.scope.isCoroutine = false) (hgen : fd.scope.isGenerator = true) (hk : fd.scope.kind = .function) :
    codeAny (model prog w) A (.call (.ref a) args) R s := by
  refine codeAny_call_generator hroom ho hdata hco hgen hbody hcd (hbind _ _ _ _ ?_)
  refine wpAny_newFunctionEnv hcell hloc (fun h₀ hns₀ hsb₀ => ⟨hlim.fresh _ hsb₀, ?_⟩) hk
  refine h h₀ _ _ _ hns₀ (fun b o e => hsb₀.extBut b o (Nat.ne_of_lt (Heap.lt_size e)) (Heap.get?_push_of_some _ e)) ?_
  obtain ⟨o, _, _, e, _⟩ := hns₀
  exact Heap.lt_size e
end
end Mine
end

section
open PySem PySem.W PyProof.Rows PySem.Calls PySem.Spec
namespace Mine
/-- the units of a text from place j on: each at its last sign's place -/
noncomputable def unitsF : List Nat → Nat → Bool → List (Nat × PySem.Str)
  | [], j, true => [(j - 1, Str.ofString "\\")]
  | [], _, false => []
  | c :: r, j, true => (j, Str.ofString "\\" ++ ⟨#[c]⟩) :: unitsF r (j + 1) false
  | c :: r, j, false => if (⟨#[c]⟩ : PySem.Str) = Str.ofString "\\" then unitsF r (j + 1) true else (j, ⟨#[c]⟩) :: unitsF r (j + 1) false
noncomputable def unitsOf (x : PySem.Str) : List (Nat × PySem.Str) := unitsF x.cps.toList 0 false
noncomputable def genCls (o : Obj) : Prop := (o.cls = .type "enumerate" ∨ o.cls = .type "str_ascii_iterator" ∨ o.cls = .type "str_iterator") ∧ ∃ vs, o.data = .fields vs
/-- what a wake of the generator keeps -/
noncomputable def SinceG (Lg : Addr) (s₀ s₁ : Shared) : Prop :=
  (∀ b o, b ≠ Lg → ¬ genCls o → s₀.heap.get? b = some o → s₁.heap.get? b = some o) ∧ s₁.gens = s₀.gens ∧ s₁.drawn = s₀.drawn ∧ s₁.os = s₀.os
abbrev tupObj (vs : Array Value) : Obj := { cls := .type "tuple", data := .seq vs }
noncomputable def Rg (h₀ : Heap) (Lg : Addr) : GenEnd := fun n s₀ r s₁ => r = .ok (.ret .none) ∧ n = 0 ∧ (∀ b o, h₀.get? b = some o → s₁.heap.get? b = some o) ∧ SinceG Lg s₀ s₁
noncomputable def Yg (h₀ : Heap) (Lg : Addr) (us : List (Nat × PySem.Str)) : Protocol := fun n s₀ v s₁ kap =>
  SinceG Lg s₀ s₁ ∧ (∀ b o, h₀.get? b = some o → s₁.heap.get? b = some o) ∧ (∃ T p u tp tu, us[us.length - 1 - n]? = some (p, u) ∧ v = .ref T ∧ s₁.heap.get? T = some (tupObj #[.int (p : Nat) tp, .str u tu]) ∧ h₀.get? T = none ∧ T ≠ Lg) ∧
  ∃ P : List (Addr × Obj), (∀ p ∈ P, s₁.heap.get? p.1 = some p.2 ∧ h₀.get? p.1 = none ∧ (p.1 = Lg ∨ genCls p.2)) ∧
    ∀ s'' : Shared, (∀ p ∈ P, s''.heap.get? p.1 = some p.2) → (∀ b o, h₀.get? b = some o → s''.heap.get? b = some o) → kap (.send .none) s''
noncomputable def GSt (w : World) (B : Around) (h₀ : Heap) (Lg : Addr) (us : List (Nat × PySem.Str)) (n : Nat) (P : List (Addr × Obj)) (gs : GenState) : Prop :=
  (∀ p ∈ P, h₀.get? p.1 = none ∧ (p.1 = Lg ∨ genCls p.2)) ∧ ∀ s'' : Shared, (∀ p ∈ P, s''.heap.get? p.1 = some p.2) → (∀ b o, h₀.get? b = some o → s''.heap.get? b = some o) →
    gs.Goes (model Challenge.rw_ux0024_01.row.toRowW.prog w) B (Rg h₀ Lg) (Yg h₀ Lg us) n (.send .none) s''

open Classical in
/-- all that a wake keeps beyond the base -/
noncomputable def restOf (h₀ : Heap) (Lg : Addr) (h : Heap) : List (Addr × Obj) :=
  (List.range h.objs.size).filterMap fun b => match h.get? b with
    | some o => if b ≠ Lg ∧ ¬ genCls o ∧ h₀.get? b = none then some (b, o) else none
    | none => none
theorem mem_restOf {h₀ h : Heap} {Lg : Addr} {p : Addr × Obj} : p ∈ restOf h₀ Lg h ↔ h.get? p.1 = some p.2 ∧ p.1 ≠ Lg ∧ ¬ genCls p.2 ∧ h₀.get? p.1 = none := by
  obtain ⟨b, o⟩ := p
  unfold restOf
  rw [List.mem_filterMap]
  constructor
  · rintro ⟨b', hb', e⟩
    split at e
    · rename_i o' ho'
      split at e
      · rename_i hc
        cases e
        exact ⟨ho', hc⟩
      · cases e
    · cases e
  · rintro ⟨h1, h2⟩
    refine ⟨b, List.mem_range.mpr (Heap.lt_size h1), ?_⟩
    dsimp only at h1
    rw [h1]
    exact if_pos h2
theorem news_restOf {h₀ h : Heap} {Lg : Addr} : News h₀ Lg h (restOf h₀ Lg h) := fun _ hp =>
  have q := mem_restOf.mp hp
  ⟨q.1, q.2.1, q.2.2.2⟩
theorem since_of {h₀ : Heap} {Lg : Addr} {s₀ s₁ : Shared} {m₁ : PySem.Str → Option Value} {nx : List (Addr × Obj)} (k0 : ∀ b o, h₀.get? b = some o → s₀.heap.get? b = some o) (F : Fr h₀ Lg s₁.heap m₁) (N : News h₀ Lg s₁.heap nx) (hs : ∀ p ∈ restOf h₀ Lg s₀.heap, p ∈ nx)
    (e1 : s₁.gens = s₀.gens) (e2 : s₁.drawn = s₀.drawn) (e3 : s₁.os = s₀.os) : SinceG Lg s₀ s₁ := by
  refine ⟨fun b o hb hg e => ?_, e1, e2, e3⟩
  cases q : h₀.get? b with
  | some o' =>
    have := k0 b o' q
    rw [e] at this
    cases this
    exact F.keep b o q
  | none => exact (N (b, o) (hs _ (mem_restOf.mpr ⟨e, hb, hg, q⟩))).1
theorem code_genK {prog : Program} {w : World} {A : Around} {s : Shared} {K : Frag} {R : Result → Shared → Prop} {name qual : PySem.Str} {params : Arguments} {body : List Stmt} {scope : Scope} {dV kV doc pm cdv ct oc : Value} {an od : Option Addr} {osl : Array (Option Value)} {f : Addr} {args : Args} {binds : List (PySem.Str × Value)}
    (X : K.In s.heap) (hlim : s.heap.NoLimit) (ho : K.lookup f = some ⟨oc, od, .func (fnOf name qual params body scope dV kV doc pm an cdv ct), osl⟩) (hcd : codeIn K cdv qual = true) (hroom : A.depth < recursionLimit)
    (hbind : BindsTo s (fnOf name qual params body scope dV kV doc pm an cdv ct) args binds) (hloc : ∀ y ∈ binds, scope.names.lookup y.1 = some .local)
    (h : ∀ (h₁ : Heap) (tk : Nat) (nm qn : Value), h₁.Ns s.heap.objs.size (fun x => binds.reverse.lookup x) → (∀ b o, s.heap.get? b = some o → h₁.get? b = some o) → s.heap.objs.size < h₁.objs.size →
      R (.ok (.ret (.ref h₁.objs.size))) { s with gens := s.gens.push (.fresh (.func body (envOf qual scope s.heap.objs.size f cdv))), toks := tk, heap := h₁.push { cls := .type "generator", data := .fields #[.int s.gens.size 0, nm, qn] } })
    (hco : scope.isCoroutine = false) (hgen : scope.isGenerator = true) (hk : scope.kind = .function) (hcell : ∀ x ∈ scope.names, x.2 ≠ .cell) : codeAny (model prog w) A (.call (.ref f) args) R s :=
  code_gen hroom (X _ _ ho) rfl hlim (codeRec_of X hcd) rfl hbind hcell hloc h hco hgen hk
theorem handled_over {B : Around} {c c1 : Code} {k : Result → Sem Fin} {g : Bool} {lv kp : List Value} {p : Pos} (h : B.handled = none) : (B.over c [.ret k none g lv c1 p kp]).handled = none := by
  simp [Around.over, marksOver, Frame.marks, markOver, h]
theorem handled_over0 {B : Around} {c : Code} (h : B.handled = none) : (B.over c []).handled = none := by
  simp [Around.over, marksOver, h]
theorem enum_walks {prog : Program} {w : World} {A : Around} (hh : A.handled = none) (e it : Addr) (hei : e ≠ it) (x : PySem.Str) (tx : Tok) : ∃ Mid, WalksT prog w A e [e, it] [e, it] x.cps.size
    (fun i vals => ∃ t y, (∃ c u, x.cps[i]? = some c ∧ y = .str ⟨#[c]⟩ u) ∧ vals = #[.int i t, y]) (fun i h => (∃ old, IsEnum h e it i old) ∧ h.IsStrIter it (strIterType x) x tx i) Mid := by
  cases ha : x.cps.all (· < 128)
  · have ht : strIterType x = "str_iterator" := by unfold strIterType; rw [ha]; rfl
    rw [ht]
    exact ⟨_, WalksT.enumerateD (fp := [it]) (Draws.strWide (A := A.in1) hh it x tx) e hei (by simpa using hei) (by simp)⟩
  · have ht : strIterType x = "str_ascii_iterator" := by unfold strIterType; rw [ha]; rfl
    rw [ht]
    exact ⟨_, WalksT.enumerateD (fp := [it]) (Draws.strAscii (A := A.in1) hh it x tx) e hei (by simpa using hei) (by simp)⟩
theorem enum_done {prog : Program} {w : World} {A : Around} {s : Shared} {E : Value → Shared → Prop} {Q : Option Value → Shared → Prop} {e it : Addr} (hei : e ≠ it) {x : PySem.Str} {tx : Tok} (hh : A.handled = none)
    (hst : (∃ old, IsEnum s.heap e it (x.cps.size : Nat) old) ∧ s.heap.IsStrIter it (strIterType x) x tx x.cps.size) (hQ : ∀ h' tk, (∀ b o, b ∉ [e, it] → s.heap.get? b = some o → h'.get? b = some o) → Q none { s with heap := h', toks := tk }) :
    wpAny (model prog w) A (pyNext (.ref e)) Q E s := by
  obtain ⟨Mid, W⟩ := enum_walks (prog := prog) (w := w) hh e it hei x tx
  exact W.done s Q E hst hQ
theorem enum_pull {prog : Program} {w : World} {A : Around} {s : Shared} {env : Env} {h₀ : Heap} {G Z : Shared → Prop} {E : Value → Shared → Prop} {xi xc : PySem.Str} {pk pv pt : Pos} {x1 : Nat} {e it : Addr} (hei : e ≠ it) {x : PySem.Str} {tx : Tok} {m : PySem.Str → Option Value} (hh : A.handled = none)
    (hxi : env.kindOf xi = some .local) (hxc : env.kindOf xc = some .local) (hp : (env.scope.kind == .class || (env.scope.kind == .module && env.locals != env.globals)) = false)
    (hLf : env.locals ∉ [e, it]) (hwr : ∀ b ∈ [e, it], h₀.get? b = none) {j c : Nat} (hc : x.cps[j]? = some c) (hst : (∃ old, IsEnum s.heap e it j old) ∧ s.heap.IsStrIter it (strIterType x) x tx j) (F : Fr h₀ env.locals s.heap m)
    (hQ : ∀ t u h tk, (∃ old, IsEnum h e it (j + 1 : Nat) old) ∧ h.IsStrIter it (strIterType x) x tx (j + 1) → Fr h₀ env.locals h (fun y => if y = xc then some (.str ⟨#[c]⟩ u) else if y = xi then some (.int (j : Nat) t) else m y) →
      (∀ b o, b ∉ [e, it] → b ≠ env.locals → s.heap.get? b = some o → h.get? b = some o) → Z { s with heap := h, toks := tk }) :
    wpAny (model prog w) A (pyNext (.ref e)) (fun o s₁ => match o with
      | none => G s₁
      | some v => wpAny (model prog w) A (letOwnedTupleGo (.Tuple [.Name xi pk, .Name xc pv] x1 pt) (.ref e) v) (fun _ s₂ => wpAny (model prog w) A (assign (.Tuple [.Name xi pk, .Name xc pv] x1 pt) env v) (fun _ s₃ => Z s₃) E s₂) E s₁) E s := by
  obtain ⟨Mid, W⟩ := enum_walks (prog := prog) (w := w) hh e it hei x tx
  have hj : j < x.cps.size := by
    rcases Nat.lt_or_ge j x.cps.size with h | h
    · exact h
    · rw [Array.getElem?_eq_none h] at hc; cases hc
  refine pull_pair (P2 := fun i v0 v1 => ∃ t u c, x.cps[i]? = some c ∧ v0 = .int (i : Nat) t ∧ v1 = .str ⟨#[c]⟩ u) hh W ?_ hxi hxc hp hLf hwr hj hst F ?_
  · rintro i vals ⟨t, y, ⟨c, u, hc, rfl⟩, rfl⟩
    exact ⟨_, _, rfl, _, _, _, hc, rfl, rfl⟩
  rintro v0 v1 h tk ⟨t, u, c', hc', rfl, rfl⟩ hst2 F2 hk2
  rw [hc] at hc'
  cases hc'
  exact hQ t u h tk hst2 F2 hk2
theorem seg_ind {σ : Type} {M : Model} {A : Around} {R : GenEnd} {Y : Protocol} {c : Code} {t : Sem Fin} {fs : List Frame} (μ cnt : σ → Nat) (Pre : σ → Shared → Shared → Prop)
    (step : ∀ st s₀ s, Pre st s₀ s → (∀ st' s₀' s', μ st' < μ st → Pre st' s₀' s' → Seg M A R Y (cnt st') s₀' c t fs s') → Seg M A R Y (cnt st) s₀ c t fs s) (st₀ : σ) (s₀ s : Shared) (h : Pre st₀ s₀ s) :
    Seg M A R Y (cnt st₀) s₀ c t fs s := by
  have all : ∀ n st s₀ s, μ st < n → Pre st s₀ s → Seg M A R Y (cnt st) s₀ c t fs s := by
    intro n
    induction n with
    | zero => intro st _ _ h; (first | exact om224 h | omega)
    | succ n ih => exact fun st s₀ s hn hp => step st s₀ s hp fun st' s₀' s' hl hp' => ih st' s₀' s' (by (first | exact om166 hn hl | omega)) hp'
  exact all (μ st₀ + 1) st₀ s₀ s (Nat.lt_succ_self _) h
theorem fr_esc {h₀ h : Heap} {L : Addr} {m : PySem.Str → Option Value} {v1 v2 : Value} (F : Fr h₀ L h m) (e1 : m (Str.ofString "escape") = some v1) (e2 : m (Str.ofString "pos") = some v2) :
    Fr h₀ L h (fun y => if y = Str.ofString "escape" then some v1 else if y = Str.ofString "pos" then some v2 else m y) := by
  have : (fun y => if y = Str.ofString "escape" then some v1 else if y = Str.ofString "pos" then some v2 else m y) = m := by
    funext y
    by_cases h1 : y = Str.ofString "escape"
    · rw [if_pos h1, h1, e1]
    · rw [if_neg h1]
      by_cases h2 : y = Str.ofString "pos"
      · rw [if_pos h2, h2, e2]
      · rw [if_neg h2]
  rw [this]; exact F
abbrev enumO (it : Addr) (i : Int) (old : Value) : Obj := { cls := .type "enumerate", dict := none, data := .fields #[.none, .bool false, .ref it, rawInt i, .none, old], slots := #[] }
/-- between two turns of the generator's loop -/
noncomputable def EscPre (h₀ : Heap) (Lg e it : Addr) (x : PySem.Str) (tx : Tok) (st : List Nat × Nat × Bool) (s₀ s : Shared) : Prop :=
  ∃ (u : PySem.Str → Option Value) (pp : Int) (tp : Tok) (old : Value) (oi : Obj), st.1 = x.cps.toList.drop st.2.1 ∧ (∃ dn, unitsOf x = dn ++ unitsF st.1 st.2.1 st.2.2) ∧ (st.2.2 = true → pp = (st.2.1 : Int) - 1 ∧ 0 < st.2.1) ∧ st.2.1 ≤ x.cps.size ∧
    (∀ b o, h₀.get? b = some o → s₀.heap.get? b = some o) ∧
    Fr h₀ Lg s.heap (fun y => if y = Str.ofString "escape" then some (.bool st.2.2) else if y = Str.ofString "pos" then some (.int pp tp) else u y) ∧
    News h₀ Lg s.heap ((e, enumO it st.2.1 old) :: (it, oi) :: restOf h₀ Lg s₀.heap) ∧ oi.cls = .type (strIterType x) ∧ oi.data = .fields #[.str x tx, .int st.2.1 0] ∧
    s.gens = s₀.gens ∧ s.drawn = s₀.drawn ∧ s.os = s₀.os
theorem yield_of {h₀ : Heap} {Lg T : Addr} {us : List (Nat × PySem.Str)} {n p : Nat} {y : PySem.Str} {tp tu : Tok} {s₀ s' : Shared} {kap : Resume → Shared → Prop} {m' : PySem.Str → Option Value} (pr : List (Addr × Obj))
    (F : Fr h₀ Lg s'.heap m') (N : News h₀ Lg s'.heap ((T, tupObj #[.int (p : Nat) tp, .str y tu]) :: (pr ++ restOf h₀ Lg s₀.heap))) (k0 : ∀ b o, h₀.get? b = some o → s₀.heap.get? b = some o)
    (e1 : s'.gens = s₀.gens) (e2 : s'.drawn = s₀.drawn) (e3 : s'.os = s₀.os) (hu : us[us.length - 1 - n]? = some (p, y)) (hp : ∀ p ∈ pr, genCls p.2)
    (res : ∀ s'' : Shared, (∀ b o, h₀.get? b = some o → s''.heap.get? b = some o) → Fr h₀ Lg s''.heap m' → News h₀ Lg s''.heap (pr ++ restOf h₀ Lg s''.heap) → kap (.send .none) s'') :
    Yg h₀ Lg us n s₀ (.ref T) s' kap := by
  obtain ⟨oL, es, ep, hoL, hd1, hd2, hd3⟩ := F.ns
  refine ⟨since_of k0 F N (fun p hp => .tail _ (List.mem_append_right _ hp)) e1 e2 e3, F.keep, ⟨T, p, y, tp, tu, hu, rfl, (N _ (.head _)).1, (N _ (.head _)).2.2, (N _ (.head _)).2.1⟩, (Lg, oL) :: pr, ?_, ?_⟩
  · intro p hp'
    rcases List.mem_cons.mp hp' with rfl | hp'
    · exact ⟨hoL, Heap.get?_none_of_le F.above, .inl rfl⟩
    · have q := N _ (.tail _ (List.mem_append_left _ hp'))
      exact ⟨q.1, q.2.2, .inr (hp _ hp')⟩
  · intro s'' hP hk
    refine res s'' hk ⟨⟨oL, es, ep, hP (Lg, oL) (.head _), hd1, hd2, hd3⟩, hk, F.above⟩ fun p hp' => ?_
    rcases List.mem_append.mp hp' with hp' | hp'
    · exact ⟨hP _ (.tail _ hp'), (N _ (.tail _ (List.mem_append_left _ hp'))).2⟩
    · exact news_restOf p hp'
local macro_rules | `(tactic| walk_at "binaryOp Add str str") => `(tactic| (refine Halt.mk ?_))
local macro_rules | `(tactic| walk_at "call type:enumerate") => `(tactic| (refine Halt.mk ?_))
local macro_rules | `(tactic| walk_at "pyIter ref") => `(tactic| (refine Halt.mk ?_))
theorem iter_tells (w : World) (mean : ExcName → Option Value) (mg mb : PySem.Str → Option Value) (x : PySem.Str) (tx : Tok) :
  ∀ (dp un : Nat) (gd : Option (List Code)) (cn : PySem.Str) (cs : Scope) (a : Addr) (ccd : Value) (cl : List (PySem.Str × Addr)) (outer : List Env) (A₀ : Around) (base h₀ : Heap) (L : Addr) (m : PySem.Str → Option Value) (news : List (Addr × Obj)) (s : Shared)
    (Q E : Value → Shared → Prop),
    Below A₀ base outer h₀ → Fr h₀ L s.heap m → (Mine.hd.heap_39 w.params).In h₀ → News h₀ L s.heap news → Top topProg lzz mean mg mb h₀ → cs.kind = .function → dp + 1 < recursionLimit → un + 8 < cLine →
    (∀ (I Lg : Addr) (nm qn : Value) (h' : Heap) (tk' : Nat) (oL : Obj) (gs : GenState), Fr h₀ L h' m → News h₀ L h' ((I, { cls := .type "generator", data := .fields #[.int s.gens.size 0, nm, qn] }) :: (Lg, oL) :: news) →
      (∀ p ∈ news, p.1 < Lg) → Lg < I → gs.bare = true → (∀ B : Around, B.handled = none → GSt w B h₀ Lg (unitsOf x) (unitsOf x).length [(Lg, oL)] gs) →
      Q (.ref I) { s with heap := h', toks := tk', gens := s.gens.push gs }) →
    wpAny (model Challenge.rw_ux0024_01.row.toRowW.prog w) (ktrTop dp un gd cn cs L a ccd cl outer) (call (.ref 48) [.str x tx]) Q E s := by
  k_fill
  revert lzz w mean mg mb x tx
  refine @pk7 _ _ _ _ _ _ _  ⟨default, (aWorld 0), default, default, default, default, default⟩ _ ?_; generalize pick7 _ _ = zz; generalize zz.1 = lzz; generalize zz.2.1 = w; generalize zz.2.2.1 = mean; generalize zz.2.2.2.1 = mg; generalize zz.2.2.2.2.1 = mb; generalize zz.2.2.2.2.2.1 = x; generalize zz.2.2.2.2.2.2 = tx; clear zz
  intro dp un gd cn cs a ccd cl outer A₀ base h₀ L m news s Q E B F X N T hk hdp hu hret
  revert B F X N T hk hdp hu hret
  revert dp un gd cn cs a ccd cl outer A₀ base h₀ L m news s Q E
  refine pk12 (o := ⟨default, default, default, default, default, default, default, default, default, callerA, default, default⟩) ?_; generalize pick12 _ _ = zz; generalize zz.1 = dp; generalize zz.2.1 = un; generalize zz.2.2.1 = gd; generalize zz.2.2.2.1 = cn; generalize zz.2.2.2.2.1 = cs; generalize zz.2.2.2.2.2.1 = a; generalize zz.2.2.2.2.2.2.1 = ccd; generalize zz.2.2.2.2.2.2.2.1 = cl; generalize zz.2.2.2.2.2.2.2.2.1 = outer; generalize zz.2.2.2.2.2.2.2.2.2.1 = A₀; generalize zz.2.2.2.2.2.2.2.2.2.2.1 = base; generalize zz.2.2.2.2.2.2.2.2.2.2.2 = h₀; clear zz
  refine pk6 (o := ⟨default, default, default, ({} : Shared), default, default⟩) ?_; generalize pick6 _ _ = zz; generalize zz.1 = L; generalize zz.2.1 = m; generalize zz.2.2.1 = news; generalize zz.2.2.2.1 = s; generalize zz.2.2.2.2.1 = Q; generalize zz.2.2.2.2.2 = E; clear zz
  intro B F X N T hk hdp hu hret
  refine wpAny_call ?_
  have X1 := X.keeps F.keep
  k_dflt (refine' code_genK ?k3 ?k5 ?k6 ?k7 ?k8 ?k9 ?kB ?_ ?c2 ?c3 ?c4 ?c5; (case k3 => exact X1); (case k5 => exact T.nolimit.keeps F.keep); (case k6 => k_is); (case k7 => k_is); (case k8 => (show dp < _; (first | exact om225 hdp | omega))); (case k9 => exact BindsTo.of_eq rfl); (case c5 => decide); (case kB => exact locs rfl); (case c2 => exact rfl); (case c3 => exact rfl); (case c4 => exact rfl))
  intro h₁ tk nm qn hns hk₁ hsz
  obtain ⟨oL, es, ep, hoL, hd1, hd2, hd3⟩ := id hns
  have up : ∀ b o, s.heap.get? b = some o → (h₁.push { cls := .type "generator", data := .fields #[.int s.gens.size 0, nm, qn] }).get? b = some o := fun b o e => Heap.get?_push_of_some _ (hk₁ b o e)
  have hLt : @LT.lt Nat _ L s.heap.objs.size := F.ns.lt
  have hab : @LE.le Nat _ h₀.objs.size L := F.above
  refine hret h₁.objs.size s.heap.objs.size nm qn _ tk oL _ ⟨F.ns.keeps up, fun b o e => up b o (F.keep b o e), F.above⟩ ?_ (fun p hp => Heap.lt_size (N p hp).1) hsz rfl ?_
  · intro p hp
    rcases List.mem_cons.mp hp with rfl | hp
    · exact ⟨Heap.get?_push_size _ rfl, Nat.ne_of_gt (Nat.lt_trans hLt hsz), Heap.get?_none_of_le (by (first | exact om226 hsz hLt hab | omega))⟩
    · rcases List.mem_cons.mp hp with rfl | hp
      · exact ⟨Heap.get?_push_of_some _ hoL, Nat.ne_of_gt hLt, Heap.get?_none_of_le (by (first | exact om227 hLt hab | omega))⟩
      · exact ⟨up _ _ (N p hp).1, (N p hp).2⟩
  intro Bd hB
  revert hns hk₁ hsz hoL hd1 hd2 hd3 up hB
  revert h₁ nm qn oL es ep Bd
  refine pk7 (o := ⟨default, default, default, default, default, default, callerA⟩) ?_; generalize pick7 _ _ = zz; generalize zz.1 = h₁; generalize zz.2.1 = nm; generalize zz.2.2.1 = qn; generalize zz.2.2.2.1 = oL; generalize zz.2.2.2.2.1 = es; generalize zz.2.2.2.2.2.1 = ep; generalize zz.2.2.2.2.2.2 = Bd; clear zz
  intro hns hk₁ hsz hoL hd1 hd2 hd3 up hB
  refine ⟨fun p hp => ?_, fun s'' hP hk0 => ⟨rfl, ?_⟩⟩
  · rw [List.mem_singleton.mp hp]; exact ⟨Heap.get?_none_of_le (by (first | exact om227 hLt hab | omega)), .inl rfl⟩
  have hoL' : s''.heap.get? s.heap.objs.size = some oL := hP (s.heap.objs.size, oL) (List.mem_singleton.mpr rfl)
  have FL : Fr h₀ s.heap.objs.size s''.heap _ := ⟨⟨oL, es, ep, hoL', hd1, hd2, hd3⟩, hk0, by (first | exact om227 hLt hab | omega)⟩
  have NL : News h₀ s.heap.objs.size s''.heap (restOf h₀ s.heap.objs.size s''.heap) := news_restOf
  have habL : @LE.le Nat _ h₀.objs.size s.heap.objs.size := by (first | exact om227 hLt hab | omega)
  generalize s.heap.objs.size = Lg at *
  clear hoL' hP hoL hLt hsz hns up hd1 hd2 hd3 hk₁ X1 hret hu hdp N B F
  have k0 := hk0
  refine seg_func ?_
  refine seg_execs_cons ?_
  refine seg_wrap ?_
  k_steps
  refine seg_execs_cons ?_
  refine seg_wrap ?_
  k_steps
  refine seg_execs_cons ?_
  refine seg_For ?_
  k_steps
  unfold Halt
  (rename Fr _ _ _ _ => FA)
  (rename News _ _ _ _ => NA)
  (rename Heap => hA)
  refine call_enumerate_str fun h2 he hit hsz2 hk2 => ?_
  dsimp only at he hit hsz2 hk2 ⊢
  have hlt2 : @LT.lt Nat _ Lg hA.objs.size := FA.ns.lt
  have FB : Fr h₀ Lg h2 _ := ⟨FA.ns.keeps hk2, fun b o q => hk2 b o (FA.keep b o q), FA.above⟩
  obtain ⟨oi, hoi, hoc, hod⟩ := hit
  have NB : News h₀ Lg h2 ((hA.objs.size + 1, enumO hA.objs.size 0 .none) :: (hA.objs.size, oi) :: restOf h₀ Lg s''.heap) := by
    intro p hp
    rcases List.mem_cons.mp hp with rfl | hp
    · exact ⟨he, Nat.ne_of_gt (by (first | exact om228 hlt2 | omega)), Heap.get?_none_of_le (by (first | exact om229 habL hlt2 | omega))⟩
    · rcases List.mem_cons.mp hp with rfl | hp
      · exact ⟨hoi, Nat.ne_of_gt (by (first | exact om230 hlt2 | omega)), Heap.get?_none_of_le (by (first | exact om231 habL hlt2 | omega))⟩
      · exact ⟨hk2 _ _ (NA p hp).1, (NA p hp).2⟩
  k_steps
  unfold Halt
  refine wpAny_pyIter_enum he ?_
  intro p
  have hz1 : h₀.get? hA.objs.size = none := Heap.get?_none_of_le (by (first | exact om231 habL hlt2 | omega))
  have hz2 : h₀.get? (hA.objs.size + 1) = none := Heap.get?_none_of_le (by (first | exact om229 habL hlt2 | omega))
  have hei : hA.objs.size + 1 ≠ hA.objs.size := by (first | exact om232 | omega)
  have hel : Lg ≠ hA.objs.size + 1 := by (first | exact om233 hlt2 | omega)
  have hil : Lg ≠ hA.objs.size := by (first | exact om234 hlt2 | omega)
  generalize hA.objs.size = it at *
  generalize it + 1 = e at *
  refine seg_ind (σ := List Nat × Nat × Bool) (fun st => st.1.length) (fun st => (unitsF st.1 st.2.1 st.2.2).length) (EscPre h₀ Lg e it x tx) ?_ (x.cps.toList, 0, false) _ _
    ⟨_, _, _, _, _, rfl, ⟨[], rfl⟩, nofun, Nat.zero_le _, k0, FB, NB, hoc, hod, rfl, rfl, rfl⟩
  clear FA NA he hoi hk2 hsz2 FB NB hoc hod hlt2
  rintro ⟨l, j, b⟩ s₀ s ⟨u, pp, tp, old, oi, hl, hdn, hpp, hjs, hk, F1, N1, o1, o2, g1, g2, g3⟩ IH
  dsimp only at hl hdn hpp hjs F1 N1 o2 IH ⊢
  have he : s.heap.get? e = some (enumO it j old) := (N1 _ (.head _)).1
  have hi : s.heap.get? it = some oi := (N1 _ (.tail _ (.head _))).1
  have hst : (∃ old, IsEnum s.heap e it j old) ∧ s.heap.IsStrIter it (strIterType x) x tx j := ⟨⟨old, he⟩, oi, hi, o1, o2⟩
  refine seg_forLoop ?_
  have hwr : ∀ b ∈ [e, it], h₀.get? b = none := by
    intro b hb
    rcases List.mem_cons.mp hb with rfl | hb
    · exact hz2
    · rw [List.mem_singleton.mp hb]; exact hz1
  cases l with
  | nil =>
    have hj : j = x.cps.size := by
      have := congrArg List.length hl
      simp at this
      (first | exact om235 hjs this | omega)
    refine enum_done hei (handled_over hB) (by rw [← hj]; exact hst) ?_
    intro h tk hk2
    revert habL hz1 hil hz2 hei hel hpp hjs hk F1 N1 o1 o2 g1 g2 g3 he hi hst hwr hl hdn IH hj hk2
    revert Lg p it e j b s₀ s u pp tp old oi h tk
    refine pk12 (o := ⟨default, default, default, default, default, default, ({} : Shared), ({} : Shared), default, default, default, default⟩) ?_; generalize pick12 _ _ = zz; generalize zz.1 = Lg; generalize zz.2.1 = p; generalize zz.2.2.1 = it; generalize zz.2.2.2.1 = e; generalize zz.2.2.2.2.1 = j; generalize zz.2.2.2.2.2.1 = b; generalize zz.2.2.2.2.2.2.1 = s₀; generalize zz.2.2.2.2.2.2.2.1 = s; generalize zz.2.2.2.2.2.2.2.2.1 = u; generalize zz.2.2.2.2.2.2.2.2.2.1 = pp; generalize zz.2.2.2.2.2.2.2.2.2.2.1 = tp; generalize zz.2.2.2.2.2.2.2.2.2.2.2 = old; clear zz
    refine pk3 ?_; generalize pick3 _ _ = zz; generalize zz.1 = oi; generalize zz.2.1 = h; generalize zz.2.2 = tk; clear zz
    intro habL hz1 hil hz2 hei hel hpp hjs hk F1 N1 o1 o2 g1 g2 g3 he hi hst hwr hl hdn IH hj hk2
    dsimp only
    refine seg_again rfl ?_
    refine seg_leaf (.ok .next) ?_
    refine seg_execs_cons ?_
    refine seg_If ?_
    have F2 : Fr h₀ Lg h _ := ⟨F1.ns.at' fun o q => hk2 _ o (by simp [hel, hil]) q, fun b o q => hk2 b o (by intro hm; rw [hwr b hm] at q; cases q) (F1.keep b o q), F1.above⟩
    have NR : News h₀ Lg h (restOf h₀ Lg s₀.heap) := by
      intro p hp
      have q := N1 p (.tail _ (.tail _ hp))
      have q2 := mem_restOf.mp hp
      refine ⟨hk2 _ _ ?_ q.1, q.2⟩
      intro hm
      rcases List.mem_cons.mp hm with hm | hm
      · rw [hm, he] at q; have := Option.some.inj q.1; exact q2.2.2.1 (by rw [← this]; exact ⟨.inl rfl, _, rfl⟩)
      · rw [List.mem_singleton.mp hm, hi] at q; have := Option.some.inj q.1
        refine q2.2.2.1 ?_
        rw [← this]
        refine ⟨?_, _, o2⟩
        rw [o1]
        unfold strIterType
        split <;> simp
    k_steps
    obtain ⟨dn, hdn⟩ := hdn
    cases b with
    | true =>
      obtain ⟨hp1, hj0⟩ := hpp rfl
      have e : pp = ((j - 1 : Nat) : Int) := by (first | exact om236 hp1 hj0 | omega)
      subst e
      simp only [if_true]
      refine seg_execs_cons ?_
      rw [show (unitsF [] j true).length = 0 + 1 from rfl]
      refine seg_Expr_Yield rfl rfl rfl ?_
      k_steps
      rename_i kap hkap
      refine yield_of [] (by assumption) (by rw [List.nil_append]; assumption) hk g1 g2 g3 ?_ (fun _ hz => absurd hz (List.not_mem_nil)) ?_
      · rw [hdn]
        rw [show unitsF [] j true = [(j - 1, Str.ofString "\\")] from rfl]
        simp
      · intro s2 hk3 F3 N3
        refine hkap .none s2 ?_
        dsimp only
        refine seg_execs_nil ?_
        refine seg_end (.ok (.ret .none)) ⟨rfl, rfl, hk3, fun _ _ _ _ q => q, rfl, rfl, rfl⟩
    | false =>
      simp only [Bool.false_eq_true, if_false]
      refine seg_execs_nil ?_
      refine seg_end (.ok (.ret .none)) ⟨rfl, rfl, F2.keep, since_of hk (by assumption) (by assumption) (fun p hp => hp) g1 g2 g3⟩
  | cons c r =>
    have hc : x.cps[j]? = some c := by
      have := congrArg List.head? hl
      simpa using this.symm
    have hj1 : j + 1 ≤ x.cps.size := by
      rcases Nat.lt_or_ge j x.cps.size with h | h
      · exact h
      · rw [Array.getElem?_eq_none h] at hc; cases hc
    refine enum_pull hei (handled_over hB) rfl rfl rfl (by show Lg ∉ _; simp [hel, hil]) hwr hc hst F1 ?_
    intro t u h tk hst2 F2 hk2
    have hr : r = x.cps.toList.drop (j + 1) := by
      rw [← List.drop_drop, ← hl]; rfl
    obtain ⟨⟨old2, he2⟩, oi2, hi2, o12, o22⟩ := hst2
    have N2 : News h₀ Lg h ((e, enumO it (j + 1 : Nat) old2) :: (it, oi2) :: restOf h₀ Lg s₀.heap) := by
      intro p hp
      rcases List.mem_cons.mp hp with rfl | hp
      · exact ⟨he2, Ne.symm hel, hz2⟩
      · rcases List.mem_cons.mp hp with rfl | hp
        · exact ⟨hi2, Ne.symm hil, hz1⟩
        · have q := N1 p (.tail _ (.tail _ hp))
          have q2 := mem_restOf.mp hp
          refine ⟨hk2 _ _ ?_ q2.2.1 q.1, q.2⟩
          intro hm
          rcases List.mem_cons.mp hm with hm | hm
          · rw [hm, he] at q; have := Option.some.inj q.1; exact q2.2.2.1 (by rw [← this]; exact ⟨.inl rfl, _, rfl⟩)
          · rw [List.mem_singleton.mp hm, hi] at q; have := Option.some.inj q.1
            refine q2.2.2.1 ?_
            rw [← this]
            refine ⟨?_, _, o2⟩
            rw [o1]
            unfold strIterType
            split <;> simp
    refine seg_execs_cons ?_
    refine seg_If ?_
    k_steps
    have hge : genCls (enumO it (j + 1 : Nat) old2) := ⟨.inl rfl, _, rfl⟩
    have hgi : genCls oi2 := by
      refine ⟨?_, _, o22⟩
      rw [o12]
      unfold strIterType
      split <;> simp
    have hgp : ∀ p ∈ [(e, enumO it (j + 1 : Nat) old2), (it, oi2)], genCls p.2 := by
      intro p hp
      rcases List.mem_cons.mp hp with rfl | hp
      · exact hge
      · rw [List.mem_singleton.mp hp]; exact hgi
    obtain ⟨dn, hdn⟩ := hdn
    cases b with
    | true =>
      simp only [if_true]
      refine seg_execs_cons ?_
      rw [show (unitsF (c :: r) j true).length = (unitsF r (j + 1) false).length + 1 from rfl]
      refine seg_Expr_Yield rfl rfl rfl ?_
      k_steps
      unfold Halt
      refine PyProof.Rows.add_str ?_ (by show 1 + 1 ≤ sizeLine; decide)
      intro _ _
      k_steps
      rename_i kap hkap
      refine yield_of [(e, enumO it (j + 1 : Nat) old2), (it, oi2)] (by assumption) (by assumption) hk g1 g2 g3 ?_ hgp ?_
      · rw [hdn]
        rw [show unitsF (c :: r) j true = (j, Str.ofString "\\" ++ ⟨#[c]⟩) :: unitsF r (j + 1) false from rfl]
        simp
      · intro s2 hk3 F3 N3
        refine hkap .none s2 ?_
        dsimp only
        refine seg_execs_cons ?_
        refine seg_wrap ?_
        k_steps
        refine seg_execs_nil ?_
        refine seg_again rfl ?_
        refine IH (r, j + 1, false) s2 _ (by simp) ⟨_, j, _, old2, oi2, hr, ⟨dn ++ [(j, Str.ofString "\\" ++ ⟨#[c]⟩)], ?_⟩, nofun, hj1, hk3, fr_esc (by assumption) rfl rfl, by assumption, o12, o22, rfl, rfl, rfl⟩
        rw [hdn, List.append_assoc]
        rfl
    | false =>
      simp only [Bool.false_eq_true, if_false]
      refine seg_execs_cons ?_
      refine seg_If ?_
      k_steps
      cases hcc : ((⟨#[c]⟩ : PySem.Str) == Str.ofString "\\") with
      | true =>
        have hcq : (⟨#[c]⟩ : PySem.Str) = Str.ofString "\\" := by simpa using hcc
        have hun : unitsF (c :: r) j false = unitsF r (j + 1) true := by
          show (if _ then _ else _) = _
          rw [if_pos hcq]
        rw [hun] at hdn ⊢
        simp only [if_true]
        refine seg_execs_cons ?_
        refine seg_wrap ?_
        k_steps
        refine seg_execs_nil ?_
        refine seg_again rfl ?_
        exact IH (r, j + 1, true) s₀ _ (by simp) ⟨_, j, _, old2, oi2, hr, ⟨dn, hdn⟩, fun _ => ⟨by dsimp only; (first | exact om237 | omega), by dsimp only; (first | exact om238 | omega)⟩, hj1, hk, fr_esc (by assumption) rfl rfl, by assumption, o12, o22, g1, g2, g3⟩
      | false =>
        have hcq : ¬ (⟨#[c]⟩ : PySem.Str) = Str.ofString "\\" := by simpa using hcc
        have hun : unitsF (c :: r) j false = (j, ⟨#[c]⟩) :: unitsF r (j + 1) false := by
          show (if _ then _ else _) = _
          rw [if_neg hcq]
        rw [hun] at hdn ⊢
        rw [List.length_cons]
        simp only [Bool.false_eq_true, if_false]
        refine seg_execs_cons ?_
        refine seg_Expr_Yield rfl rfl rfl ?_
        k_steps
        rename_i kap hkap
        refine yield_of [(e, enumO it (j + 1 : Nat) old2), (it, oi2)] (by assumption) (by assumption) hk g1 g2 g3 ?_ hgp ?_
        · rw [hdn]
          simp
        · intro s2 hk3 F3 N3
          refine hkap .none s2 ?_
          dsimp only
          refine seg_execs_nil ?_
          refine seg_again rfl ?_
          refine IH (r, j + 1, false) s2 _ (by simp) ⟨_, j, _, old2, oi2, hr, ⟨dn ++ [(j, ⟨#[c]⟩)], ?_⟩, nofun, hj1, hk3, fr_esc (by assumption) rfl rfl, by assumption, o12, o22, rfl, rfl, rfl⟩
          rw [hdn, List.append_assoc]
          rfl
end Mine
end

section
open PySem PySem.W PyProof.Rows PySem.Calls PySem.Spec
namespace Mine
theorem setGen_twice {G : Array GenState} {g : Nat} {a b : GenState} : (G.setIfInBounds g a).setIfInBounds g b = G.setIfInBounds g b := by
  apply Array.ext'
  simp [Array.toList_setIfInBounds]
theorem gen_next {w : World} {A : Around} {s : Shared} {h₀ : Heap} {Lg I : Addr} {g n : Nat} {us : List (Nat × PySem.Str)} {P : List (Addr × Obj)} {gs : GenState} {Q : Option Value → Shared → Prop} {E : Value → Shared → Prop}
    (hh : A.handled = none) (hl : s.heap.NoLimit) (hroom : A.depth < recursionLimit) (hg : s.heap.IsGen I g) (hgs : s.gens[g]? = some gs) (G : GSt w A.in1 h₀ Lg us n P gs) (hP : ∀ p ∈ P, s.heap.get? p.1 = some p.2)
    (hk : ∀ b o, h₀.get? b = some o → s.heap.get? b = some o)
    (hsome : ∀ m T p u tp tu P' gs' (s' : Shared), n = m + 1 → us[us.length - 1 - m]? = some (p, u) → s'.heap.get? T = some (tupObj #[.int (p : Nat) tp, .str u tu]) → h₀.get? T = none → T ≠ Lg → (∀ b o, h₀.get? b = some o → s'.heap.get? b = some o) →
      (∀ b o, b ≠ Lg → ¬ genCls o → s.heap.get? b = some o → s'.heap.get? b = some o) → (∀ p ∈ P', s'.heap.get? p.1 = some p.2) → GSt w A.in1 h₀ Lg us m P' gs' → s'.gens = s.gens.setIfInBounds g gs' → s'.drawn = s.drawn → s'.os = s.os → Q (some (.ref T)) s')
    (hnone : n = 0 → ∀ s' : Shared, (∀ b o, h₀.get? b = some o → s'.heap.get? b = some o) → (∀ b o, b ≠ Lg → ¬ genCls o → s.heap.get? b = some o → s'.heap.get? b = some o) → s'.gens = s.gens.setIfInBounds g .finished → s'.drawn = s.drawn → s'.os = s.os → Q none s') :
    wpAny (model Challenge.rw_ux0024_01.row.toRowW.prog w) A (pyNext (.ref I)) Q E s := by
  revert hh hl hroom hg hgs G hP hk hsome hnone
  revert w A s h₀ Lg I g n us P gs Q E
  refine @pk12 _ _ _ _ _ _ _ _ _ _ _ _  ⟨(aWorld 0), callerA, ({} : Shared), default, default, default, default, default, default, default, .finished, default⟩ _ ?_; generalize pick12 _ _ = zz; generalize zz.1 = w; generalize zz.2.1 = A; generalize zz.2.2.1 = s; generalize zz.2.2.2.1 = h₀; generalize zz.2.2.2.2.1 = Lg; generalize zz.2.2.2.2.2.1 = I; generalize zz.2.2.2.2.2.2.1 = g; generalize zz.2.2.2.2.2.2.2.1 = n; generalize zz.2.2.2.2.2.2.2.2.1 = us; generalize zz.2.2.2.2.2.2.2.2.2.1 = P; generalize zz.2.2.2.2.2.2.2.2.2.2.1 = gs; generalize zz.2.2.2.2.2.2.2.2.2.2.2 = Q; clear zz
  refine @pk1 _ inferInstance _ ?_; generalize pick1 _ _ = E
  intro hh hl hroom hg hgs G hP hk hsome hnone
  refine wpAny_pyNext_gen (Y := Yg h₀ Lg us) (P := fun n s₀ s₁ => n = 0 ∧ (∀ b o, h₀.get? b = some o → s₁.heap.get? b = some o) ∧ SinceG Lg s₀ s₁) (n := n) hh hl hroom hg hgs (G.2 (s.setGen g .running) hP hk) ?_ ?_
  · rintro v s₁ gs' ⟨sc, kp, ⟨T, p, u, tp, tu, hu, rfl, hT, hT0, hTL⟩, P', hP', res⟩
    have up := sc.1
    cases n with
    | zero =>
      exact (res s₁ (fun p hp => (hP' p hp).1) kp).elim
    | succ m =>
      refine hsome m T p u tp tu P' gs' (s₁.setGen g gs') rfl hu hT hT0 hTL kp (fun b o hb hg e => up b o hb hg e) (fun p hp => (hP' p hp).1) ⟨fun p hp => ⟨(hP' p hp).2.1, (hP' p hp).2.2⟩, fun s'' h1 h2 => res s'' h1 h2⟩ ?_ sc.2.2.1 sc.2.2.2
      show s₁.gens.setIfInBounds g gs' = _
      rw [sc.2.1]
      exact setGen_twice
  · rintro s₁ ⟨h0, kp, sc⟩ h' hk'
    refine hnone h0 _ (fun b o q => hk' b o (kp b o q)) (fun b o hb hg e => hk' b o (sc.1 b o hb hg e)) ?_ sc.2.2.1 sc.2.2.2
    show s₁.gens.setIfInBounds g .finished = _
    rw [sc.2.1]
    exact setGen_twice

noncomputable def GEnd (h₀ : Heap) (L I : Addr) (go : Obj) (P : List (Addr × Obj)) (J : (PySem.Str → Option Value) → List (Addr × Obj) → Prop) (s₁ s₂ : Shared) : Prop :=
  ∃ h' tk m' nx', s₂ = { s₁ with heap := h', toks := tk } ∧ Fr h₀ L h' m' ∧ News h₀ L h' (nx' ++ (I, go) :: P) ∧ J m' nx'
noncomputable def GPost (h₀ : Heap) (L I : Addr) (go : Obj) (P : List (Addr × Obj)) (J : (PySem.Str → Option Value) → List (Addr × Obj) → Prop) (s₁ : Shared) (Q : Flow → Shared → Prop) (f : Flow) (s₂ : Shared) : Prop :=
  match f with
  | .ret v => Q (.ret v) s₂
  | .brk => Q .next s₂
  | _ => GEnd h₀ L I go P J s₁ s₂
abbrev genO (g : Nat) (nm qn : Value) : Obj := { cls := .type "generator", data := .fields #[.int (g : Nat) 0, nm, qn] }
theorem letOwned_gen {M : Model} {A : Around} {s : Shared} {E : Value → Shared → Prop} {Q : Unit → Shared → Prop} {elts : List PySem.Expr} {x1 : Nat} {pos : Pos} {I T : Addr} {g : Nat} {nm qn : Value} (hI : s.heap.get? I = some (genO g nm qn)) (h : Q () s) :
    wpAny M A (letOwnedTupleGo (.Tuple elts x1 pos) (.ref I) (.ref T)) Q E s := by
  unfold letOwnedTupleGo
  refine wpAny_bind (wpAny_load hI ?_)
  show wpAny M A (if (["enumerate", "zip", "dict_itemiterator", "dict_reverseitemiterator", "odict_iterator", "itertools.zip_longest", "itertools.pairwise"].contains "generator" && _) = true then _ else _) Q E s
  rw [if_neg (by simp)]
  exact wpAny_pure h
theorem gen_loop {w : World} {A : Around} {env : Env} {h₀ : Heap} {Lg I : Addr} {g : Nat} {nm qn : Value} {us : List (Nat × PySem.Str)} {xi xc : PySem.Str} {pk pv pt : Pos} {x1 : Nat} {body : List Stmt} {Q : Flow → Shared → Prop} {E : Value → Shared → Prop} {s : Shared}
    {P : List (Addr × Obj)} {gs : GenState} {m : PySem.Str → Option Value} {nx : List (Addr × Obj)}
    (J : Nat → (PySem.Str → Option Value) → List (Addr × Obj) → Prop) (hh : A.handled = none) (hroom : A.depth < recursionLimit) (hlim : h₀.NoLimit)
    (hxi : env.kindOf xi = some .local) (hxc : env.kindOf xc = some .local) (hp : (env.scope.kind == .class || (env.scope.kind == .module && env.locals != env.globals)) = false)
    (hcls : ∀ i m nx, J i m nx → ∀ p ∈ nx, ¬ genCls p.2 ∧ p.1 ≠ Lg ∧ p.1 ≠ I) (hLgL : Lg ≠ env.locals) (hLgI : Lg ≠ I)
    (F : Fr h₀ env.locals s.heap m) (N : News h₀ env.locals s.heap (nx ++ (I, genO g nm qn) :: P)) (hgs : s.gens[g]? = some gs) (G : GSt w A.in1 h₀ Lg us us.length P gs) (hj : J 0 m nx)
    (turn : ∀ i p u tp tu m₁ nx₁ P' h tk G', us[i]? = some (p, u) → J i m₁ nx₁ → (∀ q ∈ nx₁, q.1 ≠ I) → (∀ q ∈ nx₁, ∀ r ∈ P', r.1 ≠ q.1) →
      Fr h₀ env.locals h (fun y => if y = xc then some (.str u tu) else if y = xi then some (.int (p : Nat) tp) else m₁ y) → News h₀ env.locals h (nx₁ ++ (I, genO g nm qn) :: P') →
      wpAny (model Challenge.rw_ux0024_01.row.toRowW.prog w) A (execs body env) (GPost h₀ env.locals I (genO g nm qn) P' (J (i + 1)) { s with heap := h, toks := tk, gens := G' } Q)
        (notedBy (model Challenge.rw_ux0024_01.row.toRowW.prog w) A env fun e s' => cameBackBy (model Challenge.rw_ux0024_01.row.toRowW.prog w) A env E e s') { s with heap := h, toks := tk, gens := G' })
    (done : ∀ m₁ nx₁ h tk, J us.length m₁ nx₁ → Fr h₀ env.locals h m₁ → News h₀ env.locals h (nx₁ ++ [(I, genO g nm qn)]) → Q .next { s with heap := h, toks := tk, gens := s.gens.setIfInBounds g .finished }) :
    codeAny (model Challenge.rw_ux0024_01.row.toRowW.prog w) A (.forLoop (.Tuple [.Name xi pk, .Name xc pv] x1 pt) (.ref I) body [] env) (fun r s' => match r with | .ok f => Q f s' | .error e => cameBackBy (model Challenge.rw_ux0024_01.row.toRowW.prog w) A env E e s') s := by
  revert hh hroom hlim hxi hxc hp hcls hLgL hLgI F N hgs G hj turn done
  revert w A env h₀ Lg I g nm qn us xi xc pk pv pt x1 body Q E s P gs m nx J
  refine @pk12 _ _ _ _ _ _ _ _ _ _ _ _  ⟨(aWorld 0), callerA, default, default, default, default, default, default, default, default, default, default⟩ _ ?_; generalize pick12 _ _ = zz; generalize zz.1 = w; generalize zz.2.1 = A; generalize zz.2.2.1 = env; generalize zz.2.2.2.1 = h₀; generalize zz.2.2.2.2.1 = Lg; generalize zz.2.2.2.2.2.1 = I; generalize zz.2.2.2.2.2.2.1 = g; generalize zz.2.2.2.2.2.2.2.1 = nm; generalize zz.2.2.2.2.2.2.2.2.1 = qn; generalize zz.2.2.2.2.2.2.2.2.2.1 = us; generalize zz.2.2.2.2.2.2.2.2.2.2.1 = xi; generalize zz.2.2.2.2.2.2.2.2.2.2.2 = xc; clear zz
  refine @pk12 _ _ _ _ _ _ _ _ _ _ _ _  ⟨default, default, default, default, default, default, default, ({} : Shared), default, .finished, default, default⟩ _ ?_; generalize pick12 _ _ = zz; generalize zz.1 = pk; generalize zz.2.1 = pv; generalize zz.2.2.1 = pt; generalize zz.2.2.2.1 = x1; generalize zz.2.2.2.2.1 = body; generalize zz.2.2.2.2.2.1 = Q; generalize zz.2.2.2.2.2.2.1 = E; generalize zz.2.2.2.2.2.2.2.1 = s; generalize zz.2.2.2.2.2.2.2.2.1 = P; generalize zz.2.2.2.2.2.2.2.2.2.1 = gs; generalize zz.2.2.2.2.2.2.2.2.2.2.1 = m; generalize zz.2.2.2.2.2.2.2.2.2.2.2 = nx; clear zz
  refine @pk1 _ inferInstance _ ?_; generalize pick1 _ _ = J
  intro hh hroom hlim hxi hxc hp hcls hLgL hLgI F N hgs G hj turn done
  have hsz : g < s.gens.size := by
    rcases Nat.lt_or_ge g s.gens.size with h | h
    · exact h
    · rw [Array.getElem?_eq_none h] at hgs; cases hgs
  refine codeAny_forLoop_any (fun k s' => ∃ h' tk m' nx' P' gs' i, s' = { s with heap := h', toks := tk, gens := s.gens.setIfInBounds g gs' } ∧ Fr h₀ env.locals h' m' ∧ News h₀ env.locals h' (nx' ++ (I, genO g nm qn) :: P') ∧
    GSt w A.in1 h₀ Lg us (us.length - i) P' gs' ∧ J i m' nx' ∧ i ≤ us.length ∧ k = us.length + 1 - i) ?_ (us.length + 1) ?_
  · rintro k s' ⟨h', tk, m', nx', P', gs', i, rfl, F', N', G', hJ, hi, rfl⟩
    have hI : h'.get? I = some (genO g nm qn) := (N' _ (List.mem_append_right _ (.head _))).1
    obtain ⟨oL, es, ep, hoL, hd1, _, _⟩ := id F'.ns
    refine gen_next hh (hlim.keeps F'.keep) hroom ⟨_, nm, qn, hI, rfl, rfl, rfl⟩ (by simp [hsz]) G' (fun p hp => (N' p (List.mem_append_right _ (.tail _ hp))).1) F'.keep ?_ ?_
    · rintro m1 T p u tp tu P2 gs2 s2 hn hu hT hT0 hTL kp up hP2 G2 e1 e2 e3
      have hL2 : s2.heap.get? env.locals = some oL := up _ _ (Ne.symm hLgL) (fun hg => by obtain ⟨_, vs, hv⟩ := hg; rw [hd1] at hv; cases hv) hoL
      have F2 : Fr h₀ env.locals s2.heap m' := ⟨F'.ns.at' fun o q => by rw [hoL] at q; cases q; exact hL2, kp, F'.above⟩
      have hI2 : s2.heap.get? I = some (genO g nm qn) := up _ _ (Ne.symm hLgI) (fun hg => by rcases hg.1 with q | q | q <;> exact absurd (Value.type.inj q) (by decide)) hI
      have N2 : News h₀ env.locals s2.heap (nx' ++ (I, genO g nm qn) :: P2) := by
        intro q hq
        rcases List.mem_append.mp hq with hq | hq
        · have z := N' q (List.mem_append_left _ hq)
          have zc := hcls _ _ _ hJ q hq
          exact ⟨up _ _ zc.2.1 zc.1 z.1, z.2⟩
        · rcases List.mem_cons.mp hq with rfl | hq
          · exact ⟨hI2, (N' _ (List.mem_append_right _ (.head _))).2⟩
          · have z := G2.1 q hq
            refine ⟨hP2 q hq, fun e => ?_, z.1⟩
            rcases z.2 with z | ⟨_, vs, hv⟩
            · exact hLgL (z.symm.trans e)
            · have w1 := hP2 q hq
              rw [e, hL2] at w1
              cases w1
              rw [hd1] at hv; cases hv
      obtain ⟨hp2, gn2, dr2, tk2, os2⟩ := s2
      dsimp only at e1 e2 e3 hT kp up hP2 hL2 F2 hI2 N2
      subst e1 e2 e3
      have hidx : us.length - 1 - m1 = i := by (first | exact om239 hi hn | omega)
      rw [hidx] at hu
      refine letOwned_gen hI2 ?_
      refine wpAny_assign_Tuple hh (⟨_, hT, rfl, _, rfl⟩ : Heap.IsTuple _ T _) rfl rfl fun h₃ hx₃ => ?_
      replace hx₃ : Heap.ExtBut hp2.objs.size hp2 h₃ := hx₃
      have up₃ : ∀ b o, hp2.get? b = some o → h₃.get? b = some o := fun b o x => hx₃ b o (Nat.ne_of_lt (Heap.lt_size x)) x
      have F₃ : Fr h₀ env.locals h₃ m' := ⟨F2.ns.keeps up₃, fun b o e => up₃ b o (F2.keep b o e), F2.above⟩
      have N₃ : News h₀ env.locals h₃ (nx' ++ (I, genO g nm qn) :: P2) := fun q hq => ⟨up₃ _ _ (N2 q hq).1, (N2 q hq).2⟩
      show wpAny _ A (do holding [_] (assign (.Name xi pk) env _); do holding [] (assign (.Name xc pv) env _); pure ()) _ _ _
      refine wpAny_bind (wpAny_holding (wpAny_assign_Name (wpAny_storeName_local hxi F₃.ns (fun h₄ hn₄ hs₄ => ?_) hp)))
      replace hs₄ : Heap.SameBut env.locals h₃ h₄ := hs₄
      have F₄ := F₃.set hn₄ hs₄
      refine wpAny_bind (wpAny_holding (wpAny_assign_Name (wpAny_storeName_local hxc F₄.ns (fun h₅ hn₅ hs₅ => wpAny_pure ?_) hp)))
      replace hs₅ : Heap.SameBut env.locals h₄ h₅ := hs₅
      have F₅ := F₄.set hn₅ hs₅
      have N₅ := (N₃.set hs₄).set hs₅
      have o1 : ∀ q ∈ nx', q.1 ≠ I := fun q hq => (hcls _ _ _ hJ q hq).2.2
      have o2 : ∀ q ∈ nx', ∀ r ∈ P2, r.1 ≠ q.1 := by
        intro q hq r hr e
        have zc := hcls _ _ _ hJ q hq
        rcases (G2.1 r hr).2 with z | hg
        · exact zc.2.1 (e.symm.trans z)
        · have w1 := (N2 q (List.mem_append_left _ hq)).1
          have w2 := hP2 r hr
          rw [e, w1] at w2
          rw [← Option.some.inj w2] at hg
          exact zc.1 hg
      refine wpAny_mono (turn i p u tp tu m' nx' P2 h₅ _ _ hu hJ o1 o2 F₅ N₅) (fun f s₃ hf => ?_) fun _ _ e => e
      have fin : ∀ hq tq, GEnd h₀ env.locals I (genO g nm qn) P2 (J (i + 1)) { s with heap := hq, toks := tq, gens := (s.gens.setIfInBounds g gs').setIfInBounds g gs2 } s₃ → ∃ k', k' < us.length + 1 - i ∧ ∃ h' tk m' nx' P' gs' i, s₃ = { s with heap := h', toks := tk, gens := s.gens.setIfInBounds g gs' } ∧ Fr h₀ env.locals h' m' ∧ News h₀ env.locals h' (nx' ++ (I, genO g nm qn) :: P') ∧
          GSt w A.in1 h₀ Lg us (us.length - i) P' gs' ∧ J i m' nx' ∧ i ≤ us.length ∧ k' = us.length + 1 - i := by
        rintro _ _ ⟨h6, tk6, m6, nx6, rfl, F6, N6, J6⟩
        refine ⟨us.length + 1 - (i + 1), by (first | exact om240 hi hidx | omega), h6, tk6, m6, nx6, P2, gs2, i + 1, ?_, F6, N6, ?_, J6, by (first | exact om241 hi hn hidx | omega), rfl⟩
        · rw [setGen_twice]
        · rw [show us.length - (i + 1) = m1 by (first | exact om242 hi hn hidx | omega)]; exact G2
      cases f with
      | ret v => exact hf
      | brk => exact hf
      | next => exact fin _ _ hf
      | cont => exact fin _ _ hf
    · intro hn s2 kp up e1 e2 e3
      rename_i zv1 zv0
      revert F' N' G' hJ hi hI hoL hd1 zv1 zv0 hn kp up e1 e2 e3
      revert h' tk m' nx' P' gs' i oL es ep s2
      refine pk11 (o := ⟨default, default, default, default, default, .finished, default, default, default, default, ({} : Shared)⟩) ?_; generalize pick11 _ _ = zz; generalize zz.1 = h'; generalize zz.2.1 = tk; generalize zz.2.2.1 = m'; generalize zz.2.2.2.1 = nx'; generalize zz.2.2.2.2.1 = P'; generalize zz.2.2.2.2.2.1 = gs'; generalize zz.2.2.2.2.2.2.1 = i; generalize zz.2.2.2.2.2.2.2.1 = oL; generalize zz.2.2.2.2.2.2.2.2.1 = es; generalize zz.2.2.2.2.2.2.2.2.2.1 = ep; generalize zz.2.2.2.2.2.2.2.2.2.2 = s2; clear zz
      intro F' N' G' hJ hi hI hoL hd1 _ _ hn kp up e1 e2 e3
      have hin : i = us.length := by (first | exact om243 hi hn | omega)
      subst hin
      have hL2 : s2.heap.get? env.locals = some oL := up _ _ (Ne.symm hLgL) (fun hg => by obtain ⟨_, vs, hv⟩ := hg; rw [hd1] at hv; cases hv) hoL
      have F2 : Fr h₀ env.locals s2.heap m' := ⟨F'.ns.at' fun o q => by rw [hoL] at q; cases q; exact hL2, kp, F'.above⟩
      have hI2 : s2.heap.get? I = some (genO g nm qn) := up _ _ (Ne.symm hLgI) (fun hg => by rcases hg.1 with q | q | q <;> exact absurd (Value.type.inj q) (by decide)) hI
      have N2 : News h₀ env.locals s2.heap (nx' ++ [(I, genO g nm qn)]) := by
        intro q hq
        rcases List.mem_append.mp hq with hq | hq
        · have z := N' q (List.mem_append_left _ hq)
          have zc := hcls _ _ _ hJ q hq
          exact ⟨up _ _ zc.2.1 zc.1 z.1, z.2⟩
        · rw [List.mem_singleton.mp hq]
          exact ⟨hI2, (N' _ (List.mem_append_right _ (.head _))).2⟩
      refine wpAny_execs_nil ?_
      obtain ⟨hp2, gn2, dr2, tk2, os2⟩ := s2
      dsimp only at e1 e2 e3 F2 N2
      subst e1 e2 e3
      have := done m' nx' hp2 tk2 hJ F2 N2
      rw [← setGen_twice (a := gs')] at this
      exact this
  · refine ⟨s.heap, s.toks, m, nx, P, gs, 0, ?_, F, N, G, hj, Nat.zero_le _, rfl⟩
    have : s.gens.setIfInBounds g gs = s.gens := by
      apply Array.ext_getElem?
      intro i
      rw [Array.getElem?_setIfInBounds]
      split
      · rename_i e; subst e; exact hgs.symm
      · rfl
    rw [this]
end Mine
end

section
open PySem PySem.W PyProof.Rows PySem.Calls PySem.Spec
namespace Mine
noncomputable def Kept2 {σ : Type} (Led : σ → List (Addr × Obj)) (ps : σ → List (PySem.Str × Value)) (xi xc : PySem.Str) (m₀ : PySem.Str → Option Value) (P : σ → Prop) (m : PySem.Str → Option Value) (nx : List (Addr × Obj)) : Prop :=
  ∃ c : σ, nx = Led c ∧ P c ∧ (∀ p ∈ ps c, m p.1 = some p.2) ∧ ∀ z, z ≠ xc → z ≠ xi → (∀ p ∈ ps c, z ≠ p.1) → m z = m₀ z
theorem kst_fr2 {h₀ : Heap} {L : Addr} {h : Heap} {xi xc : PySem.Str} {ps : List (PySem.Str × Value)} {m₀ m₁ : PySem.Str → Option Value} {v0 v1 : Value} (h1 : ∀ p ∈ ps, m₁ p.1 = some p.2) (h2 : ∀ z, z ≠ xc → z ≠ xi → (∀ p ∈ ps, z ≠ p.1) → m₁ z = m₀ z)
    (F : Fr h₀ L h (fun y => if y = xc then some v1 else if y = xi then some v0 else m₁ y)) : Fr h₀ L h (fun y => if y = xc then some v1 else if y = xi then some v0 else kstB m₀ ps y) := by
  have em : (fun y => if y = xc then some v1 else if y = xi then some v0 else kstB m₀ ps y) = fun y => if y = xc then some v1 else if y = xi then some v0 else m₁ y := by
    funext y
    by_cases e1 : y = xc
    · rw [if_pos e1, if_pos e1]
    · rw [if_neg e1, if_neg e1]
      by_cases e2 : y = xi
      · rw [if_pos e2, if_pos e2]
      · rw [if_neg e2, if_neg e2]
        exact kstB_eq h1 fun hn => (h2 y e1 e2 hn).symm
  rw [em]; exact F
theorem kst_frOut2 {h₀ : Heap} {L : Addr} {h : Heap} {xi xc : PySem.Str} {ps : List (PySem.Str × Value)} {m₀ m₁ : PySem.Str → Option Value} (h1 : ∀ p ∈ ps, m₁ p.1 = some p.2) (h2 : ∀ z, z ≠ xc → z ≠ xi → (∀ p ∈ ps, z ≠ p.1) → m₁ z = m₀ z)
    (F : Fr h₀ L h m₁) : Fr h₀ L h (fun y => if y = xc then m₁ y else if y = xi then m₁ y else kstB m₀ ps y) := by
  have em : (fun y => if y = xc then m₁ y else if y = xi then m₁ y else kstB m₀ ps y) = m₁ := by
    funext y
    by_cases e1 : y = xc
    · rw [if_pos e1]
    · rw [if_neg e1]
      by_cases e2 : y = xi
      · rw [if_pos e2]
      · rw [if_neg e2]
        exact kstB_eq h1 fun hn => (h2 y e1 e2 hn).symm
  rw [em]; exact F
theorem gen_st {w : World} {A : Around} {env : Env} {h₀ : Heap} {Lg I : Addr} {g : Nat} {nm qn : Value} {us : List (Nat × PySem.Str)} {xi xc : PySem.Str} {pk pv pt : Pos} {x1 : Nat} {body : List Stmt} {Q : Flow → Shared → Prop} {E : Value → Shared → Prop} {s : Shared}
    {P : List (Addr × Obj)} {gs : GenState} {m₀ : PySem.Str → Option Value} {σ : Type}
    (Led : σ → List (Addr × Obj)) (ps : σ → List (PySem.Str × Value)) (J : Nat → σ → Prop) (c₀ : σ) (hh : A.handled = none) (hroom : A.depth < recursionLimit) (hlim : h₀.NoLimit)
    (hxi : env.kindOf xi = some .local) (hxc : env.kindOf xc = some .local) (hp : (env.scope.kind == .class || (env.scope.kind == .module && env.locals != env.globals)) = false)
    (hcls : ∀ c, ∀ p ∈ Led c, ¬ genCls p.2 ∧ p.1 ≠ Lg ∧ p.1 ≠ I) (hLgL : Lg ≠ env.locals) (hLgI : Lg ≠ I)
    (F : Fr h₀ env.locals s.heap m₀) (N : News h₀ env.locals s.heap (Led c₀ ++ (I, genO g nm qn) :: P)) (hgs : s.gens[g]? = some gs) (G : GSt w A.in1 h₀ Lg us us.length P gs) (hk : ∀ p ∈ ps c₀, m₀ p.1 = some p.2) (hj : J 0 c₀)
    (turn : ∀ i p u tp tu c P' h tk G', us[i]? = some (p, u) → J i c → (∀ q ∈ Led c, q.1 ≠ I) → (∀ q ∈ Led c, ∀ r ∈ P', r.1 ≠ q.1) →
      Fr h₀ env.locals h (fun y => if y = xc then some (.str u tu) else if y = xi then some (.int (p : Nat) tp) else kstB m₀ (ps c) y) → News h₀ env.locals h (Led c ++ (I, genO g nm qn) :: P') →
      wpAny (model Challenge.rw_ux0024_01.row.toRowW.prog w) A (execs body env) (GPost h₀ env.locals I (genO g nm qn) P' (Kept2 Led ps xi xc m₀ (J (i + 1))) { s with heap := h, toks := tk, gens := G' } Q)
        (notedBy (model Challenge.rw_ux0024_01.row.toRowW.prog w) A env fun e s' => cameBackBy (model Challenge.rw_ux0024_01.row.toRowW.prog w) A env E e s') { s with heap := h, toks := tk, gens := G' })
    (done : ∀ c (u : PySem.Str → Option Value) h tk, J us.length c → Fr h₀ env.locals h (fun y => if y = xc then u y else if y = xi then u y else kstB m₀ (ps c) y) → News h₀ env.locals h (Led c ++ [(I, genO g nm qn)]) → Q .next { s with heap := h, toks := tk, gens := s.gens.setIfInBounds g .finished }) :
    codeAny (model Challenge.rw_ux0024_01.row.toRowW.prog w) A (.forLoop (.Tuple [.Name xi pk, .Name xc pv] x1 pt) (.ref I) body [] env) (fun r s' => match r with | .ok f => Q f s' | .error e => cameBackBy (model Challenge.rw_ux0024_01.row.toRowW.prog w) A env E e s') s := by
  refine gen_loop (fun i m nx => Kept2 Led ps xi xc m₀ (J i) m nx) hh hroom hlim hxi hxc hp ?_ hLgL hLgI F N hgs G ⟨c₀, rfl, hj, hk, fun _ _ _ _ => rfl⟩ ?_ ?_
  · rintro i m nx ⟨c, rfl, _⟩
    exact hcls c
  · rintro i p u tp tu m₁ nx₁ P' h tk G' hu ⟨c, rfl, hp', h1, h2⟩ o1 o2 F₁ N₁
    exact turn i p u tp tu c P' h tk G' hu hp' o1 o2 (kst_fr2 h1 h2 F₁) N₁
  · rintro m₁ nx h tk ⟨c, rfl, hp', h1, h2⟩ F₁ N₁
    exact done c m₁ h tk hp' (kst_frOut2 h1 h2 F₁) N₁
theorem GEnd.st {σ : Type} {h₀ : Heap} {Led : σ → List (Addr × Obj)} {ps : σ → List (PySem.Str × Value)} {xi xc : PySem.Str} {P : σ → Prop} {m₀ : PySem.Str → Option Value} {L I : Addr} {go : Obj} {P' : List (Addr × Obj)} {s₁ : Shared} {h' : Heap} {tk : Nat} {m' : PySem.Str → Option Value} {all : List (Addr × Obj)} (c : σ) (F : Fr h₀ L h' m') (N : News h₀ L h' all)
    (hs : ∀ p ∈ Led c ++ (I, go) :: P', p ∈ all) (hp : P c) (h1 : ∀ p ∈ ps c, m' p.1 = some p.2) (h2 : ∀ z, z ≠ xc → z ≠ xi → (∀ p ∈ ps c, z ≠ p.1) → m' z = m₀ z) :
    GEnd h₀ L I go P' (Kept2 Led ps xi xc m₀ P) s₁ { s₁ with heap := h', toks := tk } :=
  ⟨h', tk, m', Led c, rfl, F, fun p hp => N p (hs p hp), c, rfl, hp, h1, h2⟩
end Mine
end

section
open PySem PySem.W PyProof.Rows PySem.Calls PySem.Spec
namespace Mine
/-! list(generator) -/
structure LG (w : World) (B : Around) (h₀ : Heap) (Lg I S : Addr) (g : Nat) (nm qn : Value) (us : List (Nat × PySem.Str)) (s₀ : Shared) (i : Nat) (acc : Array Value) (s : Shared) : Prop where
  gen : s.heap.get? I = some (genO g nm qn)
  st : ∃ P gs, GSt w B h₀ Lg us (us.length - i) P gs ∧ s.gens = s₀.gens.setIfInBounds g gs ∧ (∀ p ∈ P, s.heap.get? p.1 = some p.2)
  gsz : g < s₀.gens.size
  base : ∀ b o, h₀.get? b = some o → s.heap.get? b = some o
  size : acc.size = i
  items : ∀ (j p : Nat) (u : PySem.Str), j < i → us[j]? = some (p, u) → ∃ T tp tu, acc[j]? = some (Value.ref T) ∧ T ≠ Lg ∧ s.heap.get? T = some (tupObj #[.int (p : Nat) tp, .str u tu]) ∧ h₀.get? T = none
  keep : ∀ b o, b ≠ Lg → b ≠ S → ¬ genCls o → s₀.heap.get? b = some o → s.heap.get? b = some o
  drawn : s.drawn = s₀.drawn
  os : s.os = s₀.os
structure LGEnd (h₀ : Heap) (Lg S : Addr) (g : Nat) (us : List (Nat × PySem.Str)) (s₀ : Shared) (acc : Array Value) (s : Shared) : Prop where
  gens : s.gens = s₀.gens.setIfInBounds g .finished
  base : ∀ b o, h₀.get? b = some o → s.heap.get? b = some o
  size : acc.size = us.length
  items : ∀ (j p : Nat) (u : PySem.Str), us[j]? = some (p, u) → ∃ T tp tu, acc[j]? = some (Value.ref T) ∧ T ≠ Lg ∧ s.heap.get? T = some (tupObj #[.int (p : Nat) tp, .str u tu]) ∧ h₀.get? T = none
  keep : ∀ b o, b ≠ Lg → b ≠ S → ¬ genCls o → s₀.heap.get? b = some o → s.heap.get? b = some o
  drawn : s.drawn = s₀.drawn
  os : s.os = s₀.os
theorem ng_list {vs : Array Value} {n : Nat} : ¬ genCls ({ cls := .type "list", dict := none, data := .seq vs n, slots := #[] } : Obj) := by
  rintro ⟨h, _⟩
  rcases h with h | h | h <;> exact absurd (Value.type.inj h) (by decide)
theorem ng_tup {vs : Array Value} : ¬ genCls (tupObj vs) := by
  rintro ⟨h, _⟩
  rcases h with h | h | h <;> exact absurd (Value.type.inj h) (by decide)
theorem ng_gen {g : Nat} {nm qn : Value} : ¬ genCls (genO g nm qn) := by
  rintro ⟨h, _⟩
  rcases h with h | h | h <;> exact absurd (Value.type.inj h) (by decide)
theorem tup_ne {h : Heap} {T S : Addr} {vs acc : Array Value} {c : Nat} (e1 : h.get? T = some (tupObj vs)) (e2 : h.get? S = some { cls := .type "list", dict := none, data := .seq acc c, slots := #[] }) : T ≠ S := by
  rintro rfl
  rw [e1] at e2
  exact absurd (congrArg Obj.cls (Option.some.inj e2)) (fun h => absurd (Value.type.inj h) (by decide))
section
variable {w : World} {A : Around} {R : Result → Shared → Prop} {h₀ : Heap} {Lg I S : Addr} {g : Nat} {nm qn : Value} {us : List (Nat × PySem.Str)} {s₀ : Shared}
theorem loop_G (hh : A.handled = none) (hl : h₀.NoLimit) (hroom : A.depth < recursionLimit) (hSL : S ≠ Lg) (hIL : I ≠ Lg) (hSI : S ≠ I) (hS0 : h₀.get? S = none) (hn : us.length ≤ sizeLine) (res : Value) :
    ∀ (k i : Nat) (s : Shared) (acc : Array Value) (c : Nat), us.length - i = k → i ≤ us.length → LG w A.in1.in1 h₀ Lg I S g nm qn us s₀ i acc s → s.heap.get? S = some { cls := .type "list", dict := none, data := .seq acc c, slots := #[] } →
    (∀ s' acc' c', LGEnd h₀ Lg S g us s₀ acc' s' → s'.heap.get? S = some { cls := .type "list", dict := none, data := .seq acc' c', slots := #[] } → R (.ok (.ret res)) s') →
    codeAny (model Challenge.rw_ux0024_01.row.toRowW.prog w) A (.builtin "list.extend.loop" ⟨[.ref S, .ref I, res], []⟩) R s := by
  intro k
  induction k with
  | zero =>
    intro i s acc c hk hi hst hS hR
    have hin : i = us.length := by (first | exact om244 hk hi | omega)
    subst hin
    refine codeAny_builtin PySem.F.entry_extend_loop ?_
    rw [Around.under_plainId PySem.F.plain_extend_loop _]
    show wpAny _ A.in1 (pyNext (.ref I) >>= _) _ _ s
    obtain ⟨P, gs, G, hgs, hP⟩ := hst.st
    have hgs' : s.gens[g]? = some gs := by rw [hgs]; simp [hst.gsz]
    refine wpAny_bind (gen_next (A := A.in1) hh (hl.keeps hst.base) hroom ⟨_, nm, qn, hst.gen, rfl, rfl, rfl⟩ hgs' G hP hst.base ?_ ?_)
    · intro m T p u tp tu P' gs' s' he
      (first | exact om245 hk he | omega)
    · intro _ s' kp up eg ed eo
      refine wpAny_pure (hR s' acc c ⟨?_, kp, hst.size, fun j p u hj => ?_, fun b o b1 b2 b3 b4 => up b o b1 b3 (hst.keep b o b1 b2 b3 b4), ed.trans hst.drawn, eo.trans hst.os⟩ (up S _ hSL ng_list hS))
      · rw [eg, hgs]; exact setGen_twice
      · have hlt : j < us.length := by
          rcases Nat.lt_or_ge j us.length with h | h
          · exact h
          · rw [List.getElem?_eq_none h] at hj; cases hj
        obtain ⟨T, tp, tu, e1, e2, e3, e4⟩ := hst.items j p u hlt hj
        exact ⟨T, tp, tu, e1, e2, up T _ e2 ng_tup e3, e4⟩
  | succ k ih =>
    intro i s acc c hk hi hst hS hR
    have hlt : i < us.length := by (first | exact om246 hk hi | omega)
    refine codeAny_builtin PySem.F.entry_extend_loop ?_
    rw [Around.under_plainId PySem.F.plain_extend_loop _]
    show wpAny _ A.in1 (pyNext (.ref I) >>= _) _ _ s
    obtain ⟨P, gs, G, hgs, hP⟩ := hst.st
    have hgs' : s.gens[g]? = some gs := by rw [hgs]; simp [hst.gsz]
    refine wpAny_bind (gen_next (A := A.in1) hh (hl.keeps hst.base) hroom ⟨_, nm, qn, hst.gen, rfl, rfl, rfl⟩ hgs' G hP hst.base ?_ ?_)
    · intro m T p u tp tu P' gs' s' hm hu hT hT0 hTL kp up hP' G' eg ed eo
      have hS' := up S _ hSL ng_list hS
      have hTS : T ≠ S := tup_ne hT hS'
      show wpAny _ A.in1 (updateSeq S (·.push (Value.ref T)) >>= _) _ _ _
      refine wpAny_bind ?_
      have oth : ∀ b o, b ≠ S → s'.heap.get? b = some o → (s'.heap.update S (Obj.mapSeq (·.push (Value.ref T)))).get? b = some o := fun b o hb e => (Heap.get?_update_other _ _ (Ne.symm hb)).trans e
      refine wpAny_updateSeq hS' rfl (wpAny_pure ⟨plainId_quiet PySem.F.plain_extend_loop _, ih (i + 1) _ (acc.push (.ref T)) _ (by (first | exact om247 hk hlt hm | omega)) hlt ⟨?_, ?_, hst.gsz, ?_, ?_, ?_, ?_, ?_, ?_⟩ (Heap.get?_update_self _ hS' rfl) hR⟩)
        (by rw [hst.size]; (first | exact om248 hn hlt | omega)) (by show (acc.push (.ref T)).size ≤ sizeLine + 1; rw [Array.size_push, hst.size]; (first | exact om249 hn hlt | omega))
      · exact oth I _ (Ne.symm hSI) (up I _ hIL ng_gen hst.gen)
      · refine ⟨P', gs', ?_, ?_, fun p hp => oth _ _ ?_ (hP' p hp)⟩
        · rw [show us.length - (i + 1) = m by (first | exact om250 hk hlt hm | omega)]; exact G'
        · show s'.gens = _
          rw [eg, hgs]; exact setGen_twice
        · intro e
          rcases (G'.1 p hp).2 with h | h
          · exact hSL (e ▸ h)
          · have := hP' p hp
            rw [e, hS'] at this
            rw [← Option.some.inj this] at h
            exact ng_list h
      · intro b o e
        refine oth b o ?_ (kp b o e)
        rintro rfl
        rw [hS0] at e; cases e
      · rw [Array.size_push, hst.size]
      · intro j p2 u2 hj hj2
        rcases Nat.lt_or_ge j i with h | h
        · obtain ⟨T2, tp2, tu2, e1, e2, e3, e4⟩ := hst.items j p2 u2 h hj2
          have e5 := up T2 _ e2 ng_tup e3
          exact ⟨T2, tp2, tu2, by rw [Array.getElem?_push_lt (by rw [hst.size]; exact h)]; rw [← e1, Array.getElem?_eq_getElem], e2, oth T2 _ (tup_ne e5 hS') e5, e4⟩
        · have e : j = i := by (first | exact om46 hj h | omega)
          subst e
          rw [show us.length - 1 - m = j by (first | exact om251 hk hlt hm | omega), hj2] at hu
          obtain ⟨rfl, rfl⟩ := Prod.mk.inj (Option.some.inj hu)
          exact ⟨T, tp, tu, by rw [← hst.size]; simp, hTL, oth T _ hTS hT, hT0⟩
      · exact fun b o b1 b2 b3 b4 => oth b o b2 (up b o b1 b3 (hst.keep b o b1 b2 b3 b4))
      · exact ed.trans hst.drawn
      · exact eo.trans hst.os
    · intro h0
      (first | exact om252 hk h0 | omega)
theorem LG.upd {B : Around} {i : Nat} {acc : Array Value} {s : Shared} {h' : Heap} {tk : Nat} (x : LG w B h₀ Lg I S g nm qn us s₀ i acc s) (hSI : S ≠ I) (hSL : S ≠ Lg) (hS0 : h₀.get? S = none) {a : Array Value} {c : Nat} (hS : s.heap.get? S = some { cls := .type "list", dict := none, data := .seq a c, slots := #[] })
    (oth : ∀ b o, b ≠ S → s.heap.get? b = some o → h'.get? b = some o) : LG w B h₀ Lg I S g nm qn us s₀ i acc { s with heap := h', toks := tk } := by
  refine ⟨oth _ _ (Ne.symm hSI) x.gen, ?_, x.gsz, fun b o e => oth b o ?_ (x.base b o e), x.size, fun j p u hj hu => ?_, fun b o b1 b2 b3 b4 => oth b o b2 (x.keep b o b1 b2 b3 b4), x.drawn, x.os⟩
  · obtain ⟨P, gs, G, e, hP⟩ := x.st
    refine ⟨P, gs, G, e, fun p hp => oth _ _ ?_ (hP p hp)⟩
    intro e
    rcases (G.1 p hp).2 with h | h
    · exact hSL (e ▸ h)
    · have := hP p hp
      rw [e, hS] at this
      rw [← Option.some.inj this] at h
      exact ng_list h
  · rintro rfl
    rw [hS0] at e; cases e
  · obtain ⟨T, tp, tu, e1, e2, e3, e4⟩ := x.items j p u hj hu
    exact ⟨T, tp, tu, e1, e2, oth _ _ (tup_ne e3 hS) e3, e4⟩
theorem extend_G (hh : A.handled = none) (hl : h₀.NoLimit) (hroom : A.depth < recursionLimit) (hSL : S ≠ Lg) (hIL : I ≠ Lg) (hSI : S ≠ I) (hS0 : h₀.get? S = none) (hn : us.length ≤ sizeLine) (res : Value) {s : Shared} {c₀ : Nat}
    (hst : LG w A.in1.in1 h₀ Lg I S g nm qn us s₀ 0 #[] s) (hS : s.heap.get? S = some { cls := .type "list", dict := none, data := .seq #[] c₀, slots := #[] })
    (hR : ∀ s' acc' c', LGEnd h₀ Lg S g us s₀ acc' s' → s'.heap.get? S = some { cls := .type "list", dict := none, data := .seq acc' c', slots := #[] } → R (.ok (.ret res)) s') :
    wpAny (model Challenge.rw_ux0024_01.row.toRowW.prog w) A.in1 (Builtin.List.listExtendWith (.ref S) (.ref I) res)
      (fun fin s' => match fin with | .done f => R (.ok f) s' | .again c' => c'.quiet = true ∧ codeAny (model Challenge.rw_ux0024_01.row.toRowW.prog w) A c' R s') (fun e s' => R (.error e) s') s := by
  have hT : s.TypeIs (.ref I) "generator" := ⟨_, hst.gen, rfl⟩
  unfold Builtin.List.listExtendWith
  refine wpAny_bind (wpAny_typeOf hT ?_)
  have h1 : Builtin.List.listSameRef (.ref S) (.ref I) = false := by simp [Builtin.List.listSameRef, hSI]
  have h2 : (Value.type "generator" == Value.type "list") = false := by decide
  have h3 : (Value.type "generator" == Value.type "tuple") = false := by decide
  simp only [h1, h2, h3, Bool.or_false, Bool.false_eq_true, if_false]
  refine wpAny_bind (wpAny_pyIter_gen ⟨_, nm, qn, hst.gen, rfl, rfl, rfl⟩ ?_)
  refine wpAny_bind (wpAny_holding ?_)
  unfold Builtin.List.listLengthHint
  refine wpAny_bind (wpAny_specialOf hT PySem.F.gen_no_len ?_)
  show wpAny _ A.in1 (specialOf (Value.ref I) (Str.ofString "__length_hint__") >>= _) _ _ _
  refine wpAny_bind (wpAny_specialOf hT PySem.F.gen_no_hint ?_)
  refine wpAny_pure ?_
  show wpAny _ A.in1 (rule "list.extend.makes-room" >>= fun _ => Builtin.List.listTouch (.ref S) >>= fun _ =>
    again (.builtin "list.extend.loop" ⟨[.ref S, .ref I, res], []⟩)) _ _ _
  refine wpAny_bind (wpAny_rule ?_)
  refine wpAny_bind ?_
  show wpAny _ A.in1 (updateSeq S (·.push .none) >>= fun _ => updateSeq S (·.pop)) _ _ _
  refine wpAny_bind (wpAny_updateSeq hS rfl ?_)
  have hS₂ := Heap.get?_update_self (Obj.mapSeq (·.push Value.none)) hS rfl
  refine wpAny_updateSeq (hz := by seq_fits) hS₂ rfl ?_
  have hS₃ := Heap.get?_update_self (Obj.mapSeq (·.pop)) hS₂ rfl
  have oth : ∀ b o, b ≠ S → s.heap.get? b = some o → ((s.heap.update S (Obj.mapSeq (·.push Value.none))).update S (Obj.mapSeq (·.pop))).get? b = some o :=
    fun b o hb e => (Heap.get?_update_other _ _ (Ne.symm hb)).trans ((Heap.get?_update_other _ _ (Ne.symm hb)).trans e)
  exact wpAny_pure ⟨plainId_quiet PySem.F.plain_extend_loop _, loop_G hh hl hroom hSL hIL hSI hS0 hn res us.length 0 _ #[] _ (by (first | exact om253 | omega)) (Nat.zero_le _) (hst.upd hSI hSL hS0 hS oth) hS₃ hR⟩
theorem init_G (hh : A.handled = none) (hl : h₀.NoLimit) (hroom : A.depth < recursionLimit) (hSL : S ≠ Lg) (hIL : I ≠ Lg) (hSI : S ≠ I) (hS0 : h₀.get? S = none) (hn : us.length ≤ sizeLine) {s : Shared}
    (hst : LG w A.in1.in1 h₀ Lg I S g nm qn us s₀ 0 #[] s) (hS : s.heap.get? S = some { cls := .type "list", data := .seq #[] })
    (hR : ∀ s' acc' c', LGEnd h₀ Lg S g us s₀ acc' s' → s'.heap.get? S = some { cls := .type "list", dict := none, data := .seq acc' c', slots := #[] } → R (.ok (.ret .none)) s') :
    wpAny (model Challenge.rw_ux0024_01.row.toRowW.prog w) A.in1 (Builtin.«list.__init__» ⟨[.ref S, .ref I], []⟩)
      (fun fin s' => match fin with | .done f => R (.ok f) s' | .again c' => c'.quiet = true ∧ codeAny (model Challenge.rw_ux0024_01.row.toRowW.prog w) A c' R s') (fun e s' => R (.error e) s') s := by
  show wpAny _ A.in1 (do let old ← Builtin.List.listItems (.ref S); Builtin.List.listUpdate (.ref S) (fun _ => #[]); letGo old.toList.reverse; Builtin.List.listExtendWith (.ref S) (.ref I) .none) _ _ s
  refine wpAny_bind ?_
  unfold Builtin.List.listItems
  refine wpAny_bind (wpAny_seqItems hS rfl (wpAny_pure ?_))
  show wpAny _ A.in1 (updateSeq S (fun _ => #[]) >>= fun _ => letGo (#[] : Array Value).toList.reverse >>= fun _ => Builtin.List.listExtendWith (.ref S) (.ref I) .none) _ _ s
  refine wpAny_bind (wpAny_updateSeq hS rfl ?_)
  have hS₂ := Heap.get?_update_self (Obj.mapSeq (fun _ => (#[] : Array Value))) hS rfl
  have oth : ∀ b o, b ≠ S → s.heap.get? b = some o → (s.heap.update S (Obj.mapSeq (fun _ => (#[] : Array Value)))).get? b = some o :=
    fun b o hb e => (Heap.get?_update_other _ _ (Ne.symm hb)).trans e
  refine wpAny_bind (wpAny_letGo ?_)
  exact extend_G hh hl hroom hSL hIL hSI hS0 hn .none (hst.upd hSI hSL hS0 hS oth) hS₂ hR
end
theorem list_G {w : World} {A : Around} {E : Value → Shared → Prop} {Q : Value → Shared → Prop} {s : Shared} {h₀ : Heap} {Lg I : Addr} {g : Nat} {nm qn : Value} {us : List (Nat × PySem.Str)} {P : List (Addr × Obj)} {gs : GenState}
    (hh : A.handled = none) (hl : h₀.NoLimit) (hroom : A.depth < recursionLimit) (hI : s.heap.get? I = some (genO g nm qn)) (hIL : I ≠ Lg) (hLg : @LT.lt Nat _ Lg s.heap.objs.size) (hgs : s.gens[g]? = some gs)
    (G : GSt w A.in1.in1.in1 h₀ Lg us us.length P gs) (hP : ∀ p ∈ P, s.heap.get? p.1 = some p.2) (base : ∀ b o, h₀.get? b = some o → s.heap.get? b = some o) (hS0 : h₀.get? s.heap.objs.size = none) (hn : us.length ≤ sizeLine)
    (hQ : ∀ s' acc' c', LGEnd h₀ Lg s.heap.objs.size g us s acc' s' → s'.heap.get? s.heap.objs.size = some { cls := .type "list", dict := none, data := .seq acc' c', slots := #[] } → Q (.ref s.heap.objs.size) s') :
    wpAny (model Challenge.rw_ux0024_01.row.toRowW.prog w) A (call (.type "list") [.ref I]) Q E s := by
  have hSL : s.heap.objs.size ≠ Lg := Nat.ne_of_gt hLg
  have hSI : s.heap.objs.size ≠ I := Nat.ne_of_gt (Heap.lt_size hI)
  have hsz : g < s.gens.size := by
    rcases Nat.lt_or_ge g s.gens.size with h | h
    · exact h
    · rw [Array.getElem?_eq_none h] at hgs; cases hgs
  refine callType_codes (Q₁ := fun obj s₁ => obj = .ref s.heap.objs.size ∧ s₁ = { s with heap := s.heap.push { cls := .type "list", data := .seq #[] } }) PySem.F.called_list (PySem.F.typeCall_list_1 _) PySem.F.entry_list_init
    (code_list_new _ ⟨rfl, rfl⟩) fun obj s₁ h₁ => ?_
  obtain ⟨rfl, rfl⟩ := h₁
  have hS : (s.heap.push { cls := .type "list", data := .seq #[] }).get? s.heap.objs.size = some { cls := .type "list", data := .seq #[] } := Heap.get?_push_size _ rfl
  have up : ∀ b o, s.heap.get? b = some o → (s.heap.push { cls := .type "list", data := .seq #[] }).get? b = some o := fun b o e => Heap.get?_push_of_some _ e
  refine ⟨⟨_, hS, rfl⟩, PySem.F.args_list_init_2 _ _, init_G (A := A.in1) (s₀ := s) hh hl hroom hSL hIL hSI hS0 hn ⟨up _ _ hI, ⟨P, gs, G, ?_, fun p hp => up _ _ (hP p hp)⟩, hsz, fun b o e => up _ _ (base b o e), rfl, fun j p u hj => absurd hj (Nat.not_lt_zero _), fun b o _ _ _ e => up _ _ e, rfl, rfl⟩ hS fun s' acc' c' hm hS' => ⟨rfl, hQ s' acc' c' hm hS'⟩⟩
  show s.gens = s.gens.setIfInBounds g gs
  refine Array.ext_getElem? fun i => ?_
  rw [Array.getElem?_setIfInBounds]
  split
  · next e => subst e; exact hgs
  · rfl
theorem list_led {w : World} {A : Around} {E : Value → Shared → Prop} {Q : Value → Shared → Prop} {s : Shared} {h₀ : Heap} {L Lg I : Addr} {g : Nat} {nm qn : Value} {us : List (Nat × PySem.Str)} {gs : GenState} {oL : Obj} {m : PySem.Str → Option Value} {news : List (Addr × Obj)}
    (hh : A.handled = none) (hl : h₀.NoLimit) (hroom : A.depth < recursionLimit) (F : Fr h₀ L s.heap m) (N : News h₀ L s.heap ((I, genO g nm qn) :: (Lg, oL) :: news)) (hng : ∀ p ∈ news, ¬ genCls p.2) (hne : ∀ p ∈ news, p.1 ≠ Lg) (hIL : I ≠ Lg) (hgs : s.gens[g]? = some gs)
    (G : GSt w A.in1.in1.in1 h₀ Lg us us.length [(Lg, oL)] gs) (hn : us.length ≤ sizeLine)
    (h : ∀ D (vs : List Value) n h' tk, Fr h₀ L h' m → News h₀ L h' ((D, listOf vs.toArray n) :: news) → vs.length = us.length → (∀ (j p : Nat) (u : PySem.Str), us[j]? = some (p, u) → ∃ T tp tu, vs[j]? = some (Value.ref T) ∧ h'.get? T = some (tupObj #[.int (p : Nat) tp, .str u tu]) ∧ T ≠ L ∧ h₀.get? T = none) →
      (∀ p ∈ news, p.1 < D) → Q (.ref D) { s with heap := h', toks := tk, gens := s.gens.setIfInBounds g .finished }) :
    wpAny (model Challenge.rw_ux0024_01.row.toRowW.prog w) A (call (.type "list") [.ref I]) Q E s := by
  have hI := (N (I, genO g nm qn) (.head _)).1
  have hLgN := N (Lg, oL) (.tail _ (.head _))
  obtain ⟨oF, es, ep, hoF, hd1, hd2, hd3⟩ := id F.ns
  have hngF : ¬ genCls oF := fun hg => by obtain ⟨_, vs, hv⟩ := hg; rw [hd1] at hv; cases hv
  have hLlt : @LT.lt Nat _ L s.heap.objs.size := F.ns.lt
  refine list_G hh hl hroom hI hIL (Heap.lt_size hLgN.1) hgs G (fun p hp => by rw [List.mem_singleton.mp hp]; exact hLgN.1) F.keep (next_is_new F) hn fun s' acc' c' hE hS' => ?_
  have es' : s' = { s with heap := s'.heap, toks := s'.toks, gens := s.gens.setIfInBounds g .finished } := by
    have a := hE.gens
    have b := hE.drawn
    have c := hE.os
    obtain ⟨h1, g1, d1, t1, o1⟩ := s'
    dsimp only at a b c
    subst a b c
    rfl
  have hL' : s'.heap.get? L = some oF := hE.keep L oF (Ne.symm hLgN.2.1) (Nat.ne_of_lt hLlt) hngF hoF
  rw [es']
  refine h s.heap.objs.size acc'.toList c' s'.heap s'.toks ⟨F.ns.at' fun o q => by rw [hoF] at q; cases q; exact hL', hE.base, F.above⟩ ?_ (by rw [Array.length_toList, hE.size]) ?_ (fun p hp => Heap.lt_size (N p (.tail _ (.tail _ hp))).1)
  · intro p hp
    rcases List.mem_cons.mp hp with rfl | hp
    · exact ⟨by rw [Array.toArray_toList]; exact hS', Nat.ne_of_gt hLlt, (next_is_new F)⟩
    · have z := N p (.tail _ (.tail _ hp))
      exact ⟨hE.keep _ _ (hne p hp) (Nat.ne_of_lt (Heap.lt_size z.1)) (hng p hp) z.1, z.2⟩
  · intro j p u hu
    obtain ⟨T, tp, tu, e1, _, e3, e4⟩ := hE.items j p u hu
    refine ⟨T, tp, tu, by simpa using e1, e3, ?_, e4⟩
    rintro rfl
    rw [hL'] at e3
    have := congrArg Obj.data (Option.some.inj e3)
    rw [hd1] at this; cases this
end Mine
end

section
open PySem PySem.W PyProof.Rows PySem.Calls PySem.Spec
namespace Mine
theorem ints_len {vs : List Value} {ss : List Int} (h : IntsAre vs ss) : vs.length = ss.length := by
  induction h with
  | nil => rfl
  | cons y t _ ih => simp [ih]
theorem strs_len {vs : List Value} {ss : List PySem.Str} (h : StrsAre vs ss) : vs.length = ss.length := by
  induction h with
  | nil => rfl
  | cons y t _ ih => simp [ih]
theorem StrsAre.snoc {vs : List Value} {ss : List PySem.Str} (h : StrsAre vs ss) (y : PySem.Str) (t : Tok) : StrsAre (vs ++ [.str y t]) (ss ++ [y]) := by
  induction h with
  | nil => exact .cons y t .nil
  | cons z u _ ih => exact .cons z u ih
theorem IntsAre.snoc {vs : List Value} {ss : List Int} (h : IntsAre vs ss) (y : Int) (t : Tok) : IntsAre (vs ++ [.int y t]) (ss ++ [y]) := by
  induction h with
  | nil => exact .cons y t .nil
  | cons z u _ ih => exact .cons z u ih
theorem StrsAre.set {vs : List Value} {ss : List PySem.Str} (h : StrsAre vs ss) (i : Nat) (y : PySem.Str) (t : Tok) : StrsAre (vs.set i (.str y t)) (ss.set i y) := by
  induction h generalizing i with
  | nil => exact .nil
  | cons z u h ih =>
    cases i with
    | zero => exact .cons y t h
    | succ i => exact .cons z u (ih i)
theorem ints_last {vs : List Value} {ss : List Int} (h : IntsAre vs ss) {o : Int} (ho : ss.getLast? = some o) : ∃ t, vs.getLast? = some (.int o t) := by
  induction h with
  | nil => cases ho
  | cons y t h ih =>
    cases h with
    | nil => cases ho; exact ⟨t, rfl⟩
    | cons y' t' h' => 
      obtain ⟨u, hu⟩ := ih (by simpa [List.getLast?] using ho)
      exact ⟨u, by simpa [List.getLast?] using hu⟩
theorem headIs {h₀ : Heap} {L : Addr} {h : Heap} {p : Addr} {o : Obj} {r : List (Addr × Obj)} (_ : News h₀ L h ((p, o) :: r)) : ∃ l, l = p := ⟨_, rfl⟩
theorem headIs2 {h₀ : Heap} {L : Addr} {h : Heap} {p : Addr} {o : Obj} {q : Addr × Obj} {r : List (Addr × Obj)} (_ : News h₀ L h (q :: (p, o) :: r)) : ∃ l, l = p := ⟨_, rfl⟩
theorem headIs3 {h₀ : Heap} {L : Addr} {h : Heap} {p : Addr} {o : Obj} {q q' : Addr × Obj} {r : List (Addr × Obj)} (_ : News h₀ L h (q :: q' :: (p, o) :: r)) : ∃ l, l = p := ⟨_, rfl⟩
theorem news_swap {h₀ : Heap} {L : Addr} {h : Heap} {a b : Addr × Obj} {r : List (Addr × Obj)} (N : News h₀ L h ((a :: r) ++ [b])) : News h₀ L h (a :: b :: r) := by
  intro p hp
  refine N p ?_
  rcases List.mem_cons.mp hp with rfl | hp
  · exact .head _
  · rcases List.mem_cons.mp hp with rfl | hp
    · exact List.mem_append_right _ (.head _)
    · exact List.mem_append_left _ (.tail _ hp)
noncomputable def NoGen (news : List (Addr × Obj)) : Prop := ∀ p ∈ news, ¬ genCls p.2
theorem noGen_list {vs : Array Value} {n : Nat} : ¬ genCls (listOf vs n) := by
  rintro ⟨h, _⟩
  rcases h with h | h | h <;> exact absurd (Value.type.inj h) (by decide)
theorem noGen_cons {p : Addr} {vs : Array Value} {n : Nat} {r : List (Addr × Obj)} (h : NoGen r) : NoGen ((p, listOf vs n) :: r) := by
  intro q hq
  rcases List.mem_cons.mp hq with rfl | hq
  · exact noGen_list
  · exact h q hq
section
variable {prog : Program} {w : World} {A : Around} {E : Value → Shared → Prop} {s : Shared} {value slice : PySem.Expr} {l L : Addr} {h₀ : Heap} {m : PySem.Str → Option Value} {news news' : List (Addr × Obj)} {n : Nat} {k : Int} {u : Tok} 
theorem item_last {Q : Value → Shared → Prop} {vs : List Value} {v : Value} (N : News h₀ L s.heap news) (hm : (l, listOf vs.toArray n) ∈ news)
    (hx : vs.getLast? = some v) (h : Q v s)
    (hs : subscripted slice false (.ref l) (.int (-1) u) = operate [.ref l, .int (-1) u] (getItem (.ref l) (.int (-1) u)) := by with_unfolding_all rfl) :
    wpAny (model prog w) A (subscriptTail value slice (.ref l) (.int (-1) u)) Q E s := by
  have hl : s.heap.IsList l vs.toArray := ⟨_, (N _ hm).1, rfl, _, rfl⟩
  have hne : vs ≠ [] := by intro e; rw [e] at hx; cases hx
  have hpos : 0 < vs.length := List.length_pos_iff.mpr hne
  refine tail_any hl.typeIs slot_list_getitem.lookup (wpAny_getItem_list_neg hl (by decide) ?_ (by decide) (x := v) ?_ h) hs
  · rw [List.size_toArray]; (first | exact om254 hpos | omega)
  · rw [List.size_toArray, List.getElem?_toArray, ← hx, List.getLast?_eq_getElem?]
    congr 1
    (first | exact om255 hpos | omega)
theorem app_led {Q : Value → Shared → Prop} {vs : List Value} {x : Value} (F : Fr h₀ L s.heap m) (N : News h₀ L s.heap news) (U : Upd l (listOf vs.toArray n) (listOf (vs ++ [x]).toArray (n + 1)) news news') (hsz : vs.length ≤ 1000)
    (h : ∀ h', Fr h₀ L h' m → News h₀ L h' news' → Q .none { s with heap := h' }) : wpAny (model prog w) A (call (.builtin "list.append") [.ref l, x]) Q E s := by
  refine append_K F N (its := vs.toArray) (n := n) ?_ h (by rw [List.size_toArray, size_is]; (first | exact om256 hsz | omega))
  simpa using U
theorem pop_led {Q : Value → Shared → Prop} {vs : List Value} {ns : List Int} (F : Fr h₀ L s.heap m) (N : News h₀ L s.heap news) (U : Upd l (listOf vs.toArray n) (listOf vs.dropLast.toArray (n + 1)) news news') (hi : IntsAre vs ns) (hne : 0 < ns.length) (hsz : ns.length ≤ 1000)
    (h : ∀ h' t, Fr h₀ L h' m → News h₀ L h' news' → IntsAre vs.dropLast ns.dropLast → Q (.int (ns.getLastD 0) t) { s with heap := h' }) : wpAny (model prog w) A (call (.builtin "list.pop") [.ref l]) Q E s :=
  kpa_pop F N U hi (by rw [ints_len hi]; exact hne) (by rw [ints_len hi, size_is]; (first | exact om257 hne hsz | omega)) h
theorem set_led {Q : Unit → Shared → Prop} {vs : List Value} {x : Value} (F : Fr h₀ L s.heap m) (N : News h₀ L s.heap news) (U : Upd l (listOf vs.toArray n) (listOf (vs.set k.toNat x).toArray n) news news') (h0 : 0 ≤ k) (hk : k.toNat < vs.length) (hsz : vs.length ≤ 1000)
    (h : ∀ h', Fr h₀ L h' m → News h₀ L h' news' → Q () { s with heap := h' }) : wpAny (model prog w) A (setItem (.ref l) (.int k u) x) Q E s := by
  obtain ⟨pre, post, rfl, rfl, a, b⟩ := U.split
  have z := N (l, listOf vs.toArray n) (List.mem_append.mpr (.inr (.head _)))
  refine ki_setAt z.1 h0 (by (first | exact om258 hk hsz | omega)) (by rw [List.size_toArray]; (first | exact om259 h0 hk hsz | omega)) (h _ (F.change (Heap.SameBut.update ..) z.2.1 z.2.2) (ki_turn _ N a b ?_ ?_))
  · simp
  · simp
theorem ins_led {Q : Value → Shared → Prop} {vs : List Value} {x : Value} (F : Fr h₀ L s.heap m) (N : News h₀ L s.heap news) (U : Upd l (listOf vs.toArray n) (listOf (vs.take k.toNat ++ x :: vs.drop k.toNat).toArray (n + 1)) news news') (h0 : 0 ≤ k) (hk : k.toNat ≤ vs.length) (hsz : vs.length ≤ 1000)
    (h : ∀ h', Fr h₀ L h' m → News h₀ L h' news' → Q .none { s with heap := h' }) : wpAny (model prog w) A (call (.builtin "list.insert") [.ref l, .int k u, x]) Q E s := by
  refine kl_insert F N (l := vs.take k.toNat ++ x :: vs.drop k.toNat) ?_ ?_ U (by show vs.length ≤ _; rw [size_is]; (first | exact om256 hsz | omega)) h
  · unfold Builtin.List.listFitsIndex
    simp
    (first | exact om260 h0 hk hsz | omega)
  · unfold kl_ins
    rw [if_neg (by (first | exact om261 h0 | omega)), Nat.min_eq_left (by show k.toNat ≤ vs.length; exact hk)]
end
end Mine
end

section
open PySem PySem.W PyProof.Rows PySem.Calls PySem.Spec
namespace Mine
section
variable {prog : Program} {w : World} {A : Around} {E : Value → Shared → Prop} {s : Shared} {h₀ : Heap} {L l : Addr} {m : PySem.Str → Option Value} {news : List (Addr × Obj)} {value slice : PySem.Expr} {Q : Value → Shared → Prop}
theorem tail_opsR {o i : Value} {T id : String} {ops : List Value} (hT : s.TypeIs o T)
    (hl : typeLookup (.type T) "__getitem__" = pure (some (.builtin id))) (h : wpAny (model prog w) A (getItem o i) Q E s)
    (hs : subscripted slice false o i = operate ops (getItem o i)) :
    wpAny (model prog w) A (subscriptTail value slice o i) Q E s := by
  unfold subscriptTail
  refine wpAny_bind ?_
  rw [getitemInPython_of_ne hT.not_modules]
  refine wpAny_bind (wpAny_specialOf hT hl ?_)
  have fin : wpAny (model prog w) A (subscripted slice false o i) (fun r s₃ => wpAny (model prog w) A (letTemporaryGo value o r >>= fun _ => pure r) Q E s₃) E s := by
    rw [hs]
    exact wpAny_operating (wpAny_mono h (fun r s₃ h₃ => wpAny_bind (wpAny_letTemporaryGo (wpAny_pure h₃))) fun _ _ x => x)
  first
    | exact wpAny_pure (wpAny_bind fin)
    | exact wpAny_bind (wpAny_pure (wpAny_bind fin))
    | exact wpAny_bind fin
theorem slice_led {items : Array Value} {zs : List Value} {vl vu : Value} {lo hi : Option Int} (F : Fr h₀ L s.heap m) (N : News h₀ L s.heap news) (hl : s.heap.IsList l items) (pl : IsPart vl lo) (pu : IsPart vu hi) (e : (slicePick items lo hi none).toList = zs)
    (h : ∀ D h', Fr h₀ L h' m → News h₀ L h' ((D, listOf zs.toArray 0) :: news) → (∀ p ∈ news, p.1 < D) → Q (.ref D) { s with heap := h' })
    (hs : subscripted slice false (.ref l) (.ref s.heap.objs.size) = operate [.ref s.heap.objs.size, .ref l] (getItem (.ref l) (.ref s.heap.objs.size))) (hsz : items.size ≤ sizeLine) :
    wpAny (model prog w) A (subscriptTail value slice (.ref l) (.ref s.heap.objs.size)) Q E { s with heap := s.heap.push { cls := .type "slice", data := .fields #[vl, vu, .none] } } := by
  refine tail_opsR (Heap.IsList.typeIs (s := { s with heap := s.heap.push { cls := .type "slice", data := .fields #[vl, vu, .none] } }) (hl.push _)) slot_list_getitem.lookup
    (wpAny_getItem_list_slice (hl.push _) (Heap.IsSliceOf.new ..) pl pu .none (by simp) ?_ hsz) hs
  have N1 := News.push (F.push { cls := .type "slice", data := .fields #[vl, vu, .none] }) (N.grown fun _ _ e => Heap.get?_push_of_some _ e) { cls := .type "list", data := .seq (slicePick items lo hi none) }
  rw [Heap.size_push] at N1
  show Q (.ref (s.heap.push _).objs.size) _
  rw [Heap.size_push]
  refine h _ _ ((F.push _).push _) ?_ fun p hp => Nat.lt_succ_of_lt (Heap.lt_size (N p hp).1)
  rw [← e, Array.toArray_toList]
  exact N1
end
theorem pick_last2 (pre : List Value) (x y : Value) : (slicePick (pre ++ [x, y]).toArray (some (-2)) none none).toList = [x, y] := by
  have e : sliceBounds (some (-2)) none none (pre ++ [x, y]).toArray.size = (((pre.length : Nat) : Int), (((pre.length + 2 : Nat)) : Int), 1) := by
    simp only [sliceBounds, Option.getD_none, show (1 : Int) > 0 by decide, if_true, show (-2 : Int) < 0 by decide, List.size_toArray, List.length_append, List.length_cons, List.length_nil]
    congr 1
    (first | exact om262 | omega)
  rw [kmk_pick_nat _ e]
  simp
theorem pick_from (vs : List Value) {a : Nat} (h : a ≤ vs.length) : (slicePick vs.toArray (some (a : Int)) none none).toList = vs.drop a := by
  have e : sliceBounds (some (a : Int)) none none vs.toArray.size = ((a : Int), ((vs.length : Nat) : Int), 1) := by
    simp only [sliceBounds, Option.getD_none, show (1 : Int) > 0 by decide, if_true, List.size_toArray]
    rw [if_neg (by (first | exact om263 | omega))]
    congr 1
    (first | exact om264 h | omega)
  rw [kmk_pick_nat _ e]
  show (vs.drop a).take (vs.length - a) = _
  rw [List.take_of_length_le (by simp)]
end Mine
end

section
open PySem PySem.W PyProof.Rows PySem.Calls PySem.Spec
namespace Mine
abbrev StripSt := Int × Option Int × List PySem.Str
noncomputable def stripStep (x : PySem.Str) (c : StripSt) (u : Nat × PySem.Str) : StripSt :=
  if u.2 = Str.ofString "\"" then
    match c.2.1 with
    | none => (c.1, some (u.1 : Int), c.2.2)
    | some o => ((u.1 : Int) + 1, none, if c.1 ≠ o then c.2.2 ++ [Txt.slice x (some c.1) (some o)] else c.2.2)
  else c
noncomputable def stripSt (x : PySem.Str) (us : List (Nat × PySem.Str)) : StripSt := us.foldl (stripStep x) (0, none, [])
noncomputable def stripEnd (x : PySem.Str) : List PySem.Str :=
  if (stripSt x (unitsOf x)).1 < x.length then (stripSt x (unitsOf x)).2.2 ++ [Txt.slice x (some (stripSt x (unitsOf x)).1) none] else (stripSt x (unitsOf x)).2.2
noncomputable def stripF (x : PySem.Str) : PySem.Str :=
  if (Builtin.Str.occurrences x (Str.ofString "\"") 0 x.length 1).isEmpty = true then x else Txt.join (Str.ofString "") (stripEnd x)
theorem stripSt_succ {x : PySem.Str} {us : List (Nat × PySem.Str)} {i : Nat} {u : Nat × PySem.Str} (h : us[i]? = some u) : stripSt x (us.take (i + 1)) = stripStep x (stripSt x (us.take i)) u := by
  unfold stripSt
  rw [List.take_add_one, h]
  simp [List.foldl_append]
theorem unitsF_len : ∀ (l : List Nat) (j : Nat) (b : Bool), (unitsF l j b).length ≤ l.length + (if b = true then 1 else 0) := by
  intro l
  induction l with
  | nil => intro j b; cases b <;> simp [unitsF]
  | cons c r ih =>
    intro j b
    cases b with
    | true =>
      have := ih (j + 1) false
      simp [unitsF] at this ⊢
      (first | exact om56 this | omega)
    | false =>
      unfold unitsF
      split
      · have := ih (j + 1) true
        simp at this ⊢
        (first | exact om110 this | omega)
      · have := ih (j + 1) false
        simp at this ⊢
        (first | exact om109 this | omega)
theorem unitsOf_len (x : PySem.Str) : (unitsOf x).length ≤ x.length := by
  have := unitsF_len x.cps.toList 0 false
  have e : x.cps.toList.length = x.length := rfl
  rw [e] at this
  exact this
theorem sum_le {l : List PySem.Str} {n k : Nat} (h1 : ∀ y ∈ l, y.length ≤ n) (h2 : l.length ≤ k) : (l.map (·.length)).sum + l.length ≤ k * n + k := by
  have : (l.map (·.length)).sum ≤ l.length * n := by
    clear h2
    induction l with
    | nil => simp
    | cons a r ih =>
      have := ih fun y hy => h1 y (.tail _ hy)
      have e := h1 a (.head _)
      simp only [List.map_cons, List.sum_cons, List.length_cons, Nat.succ_mul]
      (first | exact om136 this e | omega)
  have e : l.length * n ≤ k * n := Nat.mul_le_mul_right _ h2
  (first | exact om137 h2 this e | omega)
noncomputable def optV : Option Int → Value → Prop
  | none, v => v = .none
  | some o, v => ∃ t, v = .int o t
local macro_rules | `(tactic| k_mem) => `(tactic| first | assumption | (refine List.mem_cons_of_mem _ ?_; first | assumption | k_mem))
local macro_rules | `(tactic| k_all) => `(tactic| assumption)
local macro_rules | `(tactic| walk_at "exec For") => `(tactic| (refine Halt.mk ?_))
local macro_rules | `(tactic| walk_at "call ref") => `(tactic| (refine Halt.mk ?_))
local macro_rules | `(tactic| walk_at "pyIter ref") => `(tactic| (refine Halt.mk ?_))
local macro_rules | `(tactic| walk_at "call builtin:list.append") => `(tactic| (refine Halt.mk ?_))
local macro_rules | `(tactic| walk_at "call builtin:str.join") => `(tactic| (refine Halt.mk ?_))
theorem strip_tells (w : World) (mean : ExcName → Option Value) (mg mb : PySem.Str → Option Value) (x : PySem.Str) (tx : Tok) (hlen : x.length ≤ 500) :
  ∀ (dp un : Nat) (gd : Option (List Code)) (cn : PySem.Str) (cs : Scope) (a : Addr) (ccd : Value) (cl : List (PySem.Str × Addr)) (outer : List Env) (A₀ : Around) (base h₀ : Heap) (L : Addr) (m : PySem.Str → Option Value) (news : List (Addr × Obj)) (s : Shared)
    (Q E : Value → Shared → Prop),
    Below A₀ base outer h₀ → Fr h₀ L s.heap m → (Mine.hd.heap_39 w.params).In h₀ → News h₀ L s.heap news → Top topProg lzz mean mg mb h₀ → NoGen news → cs.kind = .function → dp + 2 < recursionLimit → un + 16 < cLine →
    (∀ t h' tk' (G' : Array GenState), (AllBare s.gens → AllBare G') → Fr h₀ L h' m → News h₀ L h' news → Q (.str (stripF x) t) { s with heap := h', toks := tk', gens := G' }) →
    wpAny (model Challenge.rw_ux0024_01.row.toRowW.prog w) (ktrTop dp un gd cn cs L a ccd cl outer) (call (.ref 55) [.str x tx]) Q E s := by
  k_fill
  revert hlen
  revert lzz w mean mg mb x tx
  refine @pk7 _ _ _ _ _ _ _  ⟨default, (aWorld 0), default, default, default, default, default⟩ _ ?_; generalize pick7 _ _ = zz; generalize zz.1 = lzz; generalize zz.2.1 = w; generalize zz.2.2.1 = mean; generalize zz.2.2.2.1 = mg; generalize zz.2.2.2.2.1 = mb; generalize zz.2.2.2.2.2.1 = x; generalize zz.2.2.2.2.2.2 = tx; clear zz
  intro hlen
  intro dp un gd cn cs a ccd cl outer A₀ base h₀ L m news s Q E B F X N T hng hk hdp hu hret
  revert B F X N T hng hk hdp hu hret
  revert dp un gd cn cs a ccd cl outer A₀ base h₀ L m news s Q E
  refine pk12 (o := ⟨default, default, default, default, default, default, default, default, default, callerA, default, default⟩) ?_; generalize pick12 _ _ = zz; generalize zz.1 = dp; generalize zz.2.1 = un; generalize zz.2.2.1 = gd; generalize zz.2.2.2.1 = cn; generalize zz.2.2.2.2.1 = cs; generalize zz.2.2.2.2.2.1 = a; generalize zz.2.2.2.2.2.2.1 = ccd; generalize zz.2.2.2.2.2.2.2.1 = cl; generalize zz.2.2.2.2.2.2.2.2.1 = outer; generalize zz.2.2.2.2.2.2.2.2.2.1 = A₀; generalize zz.2.2.2.2.2.2.2.2.2.2.1 = base; generalize zz.2.2.2.2.2.2.2.2.2.2.2 = h₀; clear zz
  refine pk6 (o := ⟨default, default, default, ({} : Shared), default, default⟩) ?_; generalize pick6 _ _ = zz; generalize zz.1 = L; generalize zz.2.1 = m; generalize zz.2.2.1 = news; generalize zz.2.2.2.1 = s; generalize zz.2.2.2.2.1 = Q; generalize zz.2.2.2.2.2 = E; clear zz
  intro B F X N T hng hk hdp hu hret
  have hz := size_is
  refine wpAny_call ?_
  k_dflt cell_enter
  cases hq : (Builtin.Str.occurrences x (Str.ofString "\"") 0 x.length 1).isEmpty
  · rw [show stripF x = Txt.join (Str.ofString "") (stripEnd x) by unfold stripF; rw [hq]; rfl] at hret
    k_steps
    unfold Halt
    refine wpAny_For ?_
    k_steps
    unfold Halt
    (rename News _ _ _ ((_, W.listOf #[] 0) :: _) => NA)
    obtain ⟨lr, hlr⟩ := headIs NA
    subst hlr
    have hltr : ∀ p ∈ news, @LT.lt Nat _ p.1 lr := (by assumption)
    refine iter_tells w mean mg mb x tx _ _ _ _ _ _ _ _ _ _ _ _ _ _ _ _ _ _ (by assumption) (by assumption) (by assumption) (by assumption) (by assumption) rfl (by show dp + 1 + 1 < _; (first | exact om99 hdp | omega)) (by show un + 3 + 8 < _; (first | exact om100 hu | omega)) ?_
    intro I Lg nm qn h' tk' oL gs F1 N1 hlt1 hlt2 hbare hG
    rename_i zv10 zv9 zv8 zv7 zv6 zv5 zv4 _ zv3 _ _ _ zv2 zv1 zv0
    revert zv7 zv6 zv5 zv4 zv1 zv0 NA hltr F1 N1 hlt1 hlt2 hbare hG
    revert zv10 zv9 zv8 qk ek zv3 zv2 tk lr I Lg nm qn h' tk' oL gs
    try walk_at "mine:z"
    refine pk12 ?_; generalize pick12 _ _ = zz; generalize zz.1 = zv10; generalize zz.2.1 = zv9; generalize zz.2.2.1 = zv8; generalize zz.2.2.2.1 = zv3; generalize zz.2.2.2.2.1 = zv2; generalize zz.2.2.2.2.2.1 = tk; generalize zz.2.2.2.2.2.2.1 = lr; generalize zz.2.2.2.2.2.2.2.1 = I; generalize zz.2.2.2.2.2.2.2.2.1 = Lg; generalize zz.2.2.2.2.2.2.2.2.2.1 = nm; generalize zz.2.2.2.2.2.2.2.2.2.2.1 = qn; generalize zz.2.2.2.2.2.2.2.2.2.2.2 = h'; clear zz
    refine pk3 (o := ⟨default, default, .finished⟩) ?_; generalize pick3 _ _ = zz; generalize zz.1 = tk'; generalize zz.2.1 = oL; generalize zz.2.2 = gs; clear zz
    intro _ _ _ _ _ _ NA hltr F1 N1 hlt1 hlt2 hbare hG
    try k_fold
    k_steps
    unfold Halt
    have hI : h'.get? I = some (genO s.gens.size nm qn) := (N1 _ (.head _)).1
    refine wpAny_pyIter_gen ⟨_, nm, qn, hI, rfl, rfl, rfl⟩ ?_
    have hILg : @LT.lt Nat _ Lg I := hlt2
    refine gen_st (σ := StripSt × Tok × Value × List Value × Nat) (us := unitsOf x) (g := s.gens.size) (nm := nm) (qn := qn) (P := [(Lg, oL)]) (fun c => (lr, listOf c.2.2.2.1.toArray c.2.2.2.2) :: news) (fun c => [(Str.ofString "start", .int c.1.1 c.2.1), (Str.ofString "open_pos", c.2.2.1)])
      (fun i c => c.1 = stripSt x ((unitsOf x).take i) ∧ optV c.1.2.1 c.2.2.1 ∧ StrsAre c.2.2.2.1 c.1.2.2 ∧ c.1.2.2.length ≤ i ∧ ∀ y ∈ c.1.2.2, y.length ≤ 500) ((0, none, []), ?t0, .none, [], 0) ?hh ?hroom ?hlim rfl rfl rfl ?hcls ?hLgL ?hLgI F1 ?N ?gs (hG _ ?hh2) ?k ?hj ?turn ?done
    case N => exact fun p hp => N1 p (by
      rcases List.mem_append.mp hp with hp | hp
      · exact .tail _ (.tail _ hp)
      · rcases List.mem_cons.mp hp with rfl | hp
        · exact .head _
        · rw [List.mem_singleton.mp hp]; exact .tail _ (.head _))

    case hh => rfl
    case hh2 => rfl
    case hroom => (show dp + 1 < _; (first | exact om138 hdp | omega))
    case hlim => exact (‹Top topProg lzz mean mg mb _›).nolimit
    case hcls =>
      intro c p hp
      have q : p.1 < Lg := by
        rcases List.mem_cons.mp hp with e | hp
        · rw [e]; exact hlt1 (lr, listOf #[] 0) (.head _)
        · exact hlt1 _ (.tail _ hp)
      have q : @LT.lt Nat _ p.1 Lg := q
      refine ⟨?_, Nat.ne_of_lt q, Nat.ne_of_lt (Nat.lt_trans q hILg)⟩
      rcases List.mem_cons.mp hp with rfl | hp
      · exact noGen_list
      · exact hng _ hp
    case hLgL => exact (N1 _ (.tail _ (.head _))).2.1
    case hLgI => exact Nat.ne_of_lt hILg
    case gs => simp
    case k => 
      refine List.forall_mem_cons.mpr ⟨?_, List.forall_mem_cons.mpr ⟨?_, List.forall_mem_nil _⟩⟩
      · dsimp only; rfl
      · dsimp only; rfl
    case hj => exact ⟨rfl, rfl, .nil, Nat.le_refl _, fun _ hz => absurd hz (List.not_mem_nil)⟩
    case turn =>
      intro i p u tp tu c P' h tk G' hu hJ o1 o2 F2 N2
      revert c hu hJ o1 o2 F2 N2
      revert i p u tp tu P' h tk G'
      refine pk9 ?_; generalize pick9 _ _ = zz; generalize zz.1 = i; generalize zz.2.1 = p; generalize zz.2.2.1 = u; generalize zz.2.2.2.1 = tp; generalize zz.2.2.2.2.1 = tu; generalize zz.2.2.2.2.2.1 = P'; generalize zz.2.2.2.2.2.2.1 = h; generalize zz.2.2.2.2.2.2.2.1 = tk; generalize zz.2.2.2.2.2.2.2.2 = G'; clear zz
      intro c hu hJ o1 o2 F2 N2
      obtain ⟨⟨st, op, res⟩, ts, ov, vs, n⟩ := c
      obtain ⟨hc, hov, hvs, hn, hb⟩ := hJ
      dsimp only [kstB] at hc hov hvs hn hb F2 N2 o1 o2 ⊢
      replace N2 : News _ _ h ((lr, listOf vs.toArray n) :: (news ++ (I, genO s.gens.size nm qn) :: P')) := N2
      have hall : ∀ q ∈ news ++ (I, genO s.gens.size nm qn) :: P', q.1 ≠ lr := by
        intro q hq
        rcases List.mem_append.mp hq with hq | hq
        · exact Nat.ne_of_lt (hltr q hq)
        · rcases List.mem_cons.mp hq with rfl | hq
          · exact Ne.symm (o1 _ (.head _))
          · exact o2 _ (.head _) q hq
      have hs := stripSt_succ hu (x := x)
      rw [← hc] at hs
      unfold stripStep at hs
      dsimp only at hs
      cases op with
      | none =>
        have hov : ov = .none := hov
        subst hov
        k_steps
        · rw [if_pos (by simpa using ‹(u == Str.ofString "\"") = true›)] at hs
          refine GEnd.st ((st, some (p : Int), res), _, .int (p : Int) tp, vs, n) (by assumption) (by assumption) (fun _ hp => hp) ⟨hs.symm, ⟨_, rfl⟩, hvs, Nat.le_succ_of_le hn, hb⟩ (List.forall_mem_cons.mpr ⟨rfl, List.forall_mem_cons.mpr ⟨rfl, List.forall_mem_nil _⟩⟩) ?_
          intro z z1 z2 z3
          have z4 := z3 _ (List.mem_cons_self ..)
          have z5 := z3 _ (List.mem_cons_of_mem _ (List.mem_cons_self ..))
          simp [z1, z2, z4, z5]
        · rw [if_neg (by simpa using ‹(u == Str.ofString "\"") = false›)] at hs
          refine GEnd.st ((st, none, res), _, .none, vs, n) (by assumption) (by assumption) (fun _ hp => hp) ⟨hs.symm, rfl, hvs, Nat.le_succ_of_le hn, hb⟩ (List.forall_mem_cons.mpr ⟨rfl, List.forall_mem_cons.mpr ⟨rfl, List.forall_mem_nil _⟩⟩) ?_
          intro z z1 z2 z3
          have z4 := z3 _ (List.mem_cons_self ..)
          have z5 := z3 _ (List.mem_cons_of_mem _ (List.mem_cons_self ..))
          simp [z1, z2, z4, z5]
      | some o =>
        obtain ⟨to, hov⟩ := hov
        subst hov
        have hul := unitsOf_len x
        have hil : i < (unitsOf x).length := by
          rcases Nat.lt_or_ge i (unitsOf x).length with h | h
          · exact h
          · rw [List.getElem?_eq_none h] at hu; cases hu
        k_steps
        · unfold Halt
          have hz2 : vs.toArray.size ≤ sizeLine := by
            rw [List.size_toArray, strs_len hvs, hz]; (first | exact om139 hlen hn hul hil | omega)
          refine append_K (by assumption) (by assumption) (Upd.head hall) ?_ hz2
          intro h2 F5 N5
          rename_i zv19 zv18 _ zv17 zv16 zv15 zv14 zv13 zv12 zv11
          revert o1 o2 hvs hn hb zv19 o hc hs zv18 zv17 zv13 zv12 zv11 hz2 F5 N5
          revert st res ts vs n to zv16 zv15 zv14 h2
          refine pk10 ?_; generalize pick10 _ _ = zz; generalize zz.1 = st; generalize zz.2.1 = res; generalize zz.2.2.1 = ts; generalize zz.2.2.2.1 = vs; generalize zz.2.2.2.2.1 = n; generalize zz.2.2.2.2.2.1 = to; generalize zz.2.2.2.2.2.2.1 = zv16; generalize zz.2.2.2.2.2.2.2.1 = zv15; generalize zz.2.2.2.2.2.2.2.2.1 = zv14; generalize zz.2.2.2.2.2.2.2.2.2 = h2; clear zz
          intro o1 o2 hvs hn hb _ o hc hs _ _ _ _ _ hz2 F5 N5
          k_steps
          rw [if_pos (by simpa using ‹(u == Str.ofString "\"") = true›)] at hs
          dsimp only at hs
          rw [if_pos (by assumption)] at hs
          refine GEnd.st (((p : Int) + 1, none, res ++ [Txt.slice x (some st) (some o)]), _, .none, vs ++ [_], n + 1) (by assumption) (by assumption) (fun _ hp => by simpa using hp) ⟨hs.symm, rfl, StrsAre.snoc hvs _ _, ?_, ?_⟩ (List.forall_mem_cons.mpr ⟨rfl, List.forall_mem_cons.mpr ⟨rfl, List.forall_mem_nil _⟩⟩) ?_
          · simp; (first | exact om109 hn | omega)
          · intro y hy
            rcases List.mem_append.mp hy with hy | hy
            · exact hb y hy
            · rw [List.mem_singleton.mp hy]; (first | exact om140 hlen (by assumption) | omega)
          · intro z z1 z2 z3
            have z4 := z3 _ (List.mem_cons_self ..)
            have z5 := z3 _ (List.mem_cons_of_mem _ (List.mem_cons_self ..))
            simp [z1, z2, z4, z5]
        · rw [if_pos (by simpa using ‹(u == Str.ofString "\"") = true›)] at hs
          dsimp only at hs
          rw [if_neg (by (first | exact om141 (by assumption) | omega))] at hs
          refine GEnd.st (((p : Int) + 1, none, res), _, .none, vs, n) (by assumption) (by assumption) (fun _ hp => hp) ⟨hs.symm, rfl, hvs, Nat.le_succ_of_le hn, hb⟩ (List.forall_mem_cons.mpr ⟨rfl, List.forall_mem_cons.mpr ⟨rfl, List.forall_mem_nil _⟩⟩) ?_
          intro z z1 z2 z3
          have z4 := z3 _ (List.mem_cons_self ..)
          have z5 := z3 _ (List.mem_cons_of_mem _ (List.mem_cons_self ..))
          simp [z1, z2, z4, z5]
        · rw [if_neg (by simpa using ‹(u == Str.ofString "\"") = false›)] at hs
          refine GEnd.st ((st, some o, res), _, .int o to, vs, n) (by assumption) (by assumption) (fun _ hp => hp) ⟨hs.symm, ⟨_, rfl⟩, hvs, Nat.le_succ_of_le hn, hb⟩ (List.forall_mem_cons.mpr ⟨rfl, List.forall_mem_cons.mpr ⟨rfl, List.forall_mem_nil _⟩⟩) ?_
          intro z z1 z2 z3
          have z4 := z3 _ (List.mem_cons_self ..)
          have z5 := z3 _ (List.mem_cons_of_mem _ (List.mem_cons_self ..))
          simp [z1, z2, z4, z5]
    case done =>
      intro c u h tk hJ F2 N2
      revert c hJ F2 N2
      revert u h tk
      refine pk3 ?_; generalize pick3 _ _ = zz; generalize zz.1 = u; generalize zz.2.1 = h; generalize zz.2.2 = tk; clear zz
      intro c hJ F2 N2
      obtain ⟨⟨st, op, res⟩, ts, ov, vs, n⟩ := c
      obtain ⟨hc, hov, hvs, hn, hb⟩ := hJ
      dsimp only [kstB] at hc hov hvs hn hb F2 N2 ⊢
      rw [List.take_length] at hc
      replace N2 := news_swap (a := (lr, listOf vs.toArray n)) N2
      have hul := unitsOf_len x
      have hall : ∀ q ∈ (I, genO s.gens.size nm qn) :: news, q.1 ≠ lr := by
        intro q hq
        rcases List.mem_cons.mp hq with rfl | hq
        · have q : @LT.lt Nat _ lr Lg := hlt1 (lr, listOf #[] 0) (.head _)
          exact Nat.ne_of_gt (Nat.lt_trans q hILg)
        · exact Nat.ne_of_lt (hltr q hq)
      have he : stripEnd x = if st < x.length then res ++ [Txt.slice x (some st) none] else res := by
        unfold stripEnd
        rw [← hc]
      have hbare' : AllBare s.gens → AllBare ((s.gens.push gs).setIfInBounds s.gens.size GenState.finished) := by
        intro hB y hy
        rcases Array.mem_or_eq_of_mem_setIfInBounds hy with h | h
        · exact hB.push hbare y h
        · rw [h]; rfl
      k_steps
      · unfold Halt
        have hz2 : vs.toArray.size ≤ sizeLine := by
          rw [List.size_toArray, strs_len hvs, hz]; (first | exact om142 hlen hn hul | omega)
        refine append_K (by assumption) (by assumption) (Upd.head hall) ?_ hz2
        intro h2 F5 N5
        rename_i zv28 zv27 zv26 zv25 zv24 zv23 zv22 zv21 zv20
        revert zv28 hc hov hvs hn hb zv27 he zv26 zv22 zv21 zv20 hz2 F5 N5
        revert st op res ts ov vs n zv25 zv24 zv23 h2
        refine pk11 ?_; generalize pick11 _ _ = zz; generalize zz.1 = st; generalize zz.2.1 = op; generalize zz.2.2.1 = res; generalize zz.2.2.2.1 = ts; generalize zz.2.2.2.2.1 = ov; generalize zz.2.2.2.2.2.1 = vs; generalize zz.2.2.2.2.2.2.1 = n; generalize zz.2.2.2.2.2.2.2.1 = zv25; generalize zz.2.2.2.2.2.2.2.2.1 = zv24; generalize zz.2.2.2.2.2.2.2.2.2.1 = zv23; generalize zz.2.2.2.2.2.2.2.2.2.2 = h2; clear zz
        intro _ hc hov hvs hn hb _ he _ _ _ _ hz2 F5 N5
        k_steps
        unfold Halt
        rw [if_pos (by assumption)] at he
        refine join_listW ⟨_, ((‹News _ _ _ ((lr, _) :: _)›) _ (.head _)).1, rfl, _, rfl⟩ (ys := stripEnd x) ?_ (by decide +kernel) ?_ ?_
        · rw [he]; simpa using StrsAre.snoc hvs _ _
        · refine Nat.le_trans (sum_le (n := 500) (k := 501) ?_ ?_) (by decide)
          · rw [he]
            intro y hy
            rcases List.mem_append.mp hy with hy | hy
            · exact hb y hy
            · rw [List.mem_singleton.mp hy]; (first | exact om140 hlen (by assumption) | omega)
          · rw [he]; simp; (first | exact om143 hlen hul hn | omega)
        · intro t' k
          k_steps
          exact hret _ _ _ _ hbare' (by assumption) (fun p hp => (‹News h₀ L _ (_ :: _ :: news)›) p (.tail _ (.tail _ hp)))
      · rw [if_neg (by (first | exact om144 (by assumption) | omega))] at he
        unfold Halt
        refine join_listW ⟨_, ((‹News _ _ _ ((lr, _) :: _)›) _ (.head _)).1, rfl, _, rfl⟩ (ys := stripEnd x) ?_ (by decide +kernel) ?_ ?_
        · rw [he]; simpa using hvs
        · refine Nat.le_trans (sum_le (n := 500) (k := 501) ?_ ?_) (by decide)
          · rw [he]; exact hb
          · rw [he]; (first | exact om145 hlen hn hul | omega)
        · intro t' k
          k_steps
          exact hret _ _ _ _ hbare' (by assumption) (fun p hp => (‹News h₀ L _ (_ :: _ :: news)›) p (.tail _ (.tail _ hp)))
  · rw [show stripF x = x by unfold stripF; rw [hq]; rfl] at hret
    k_steps
    exact hret _ _ _ _ id (by assumption) (by assumption)
end Mine
end

section
open PySem PySem.W PyProof.Rows PySem.Calls PySem.Spec
namespace Mine
structure RdSt where
  above : List Int
  words : List PySem.Str
  opens : List Int
  size : Int
  deriving Inhabited
noncomputable def readStep (c : RdSt) (u : Nat × PySem.Str) : Option RdSt :=
  if (u.1 : Int) ≠ c.size + u.2.length - 1 then none else
  match c.opens.getLast? with
  | none => none
  | some o =>
    if u.2 = Str.ofString "(" then some ⟨c.above ++ [o], c.words ++ [Str.ofString ""], c.opens ++ [(c.words.length : Int)], c.size + u.2.length⟩
    else if u.2 = Str.ofString ")" then some ⟨c.above, c.words, c.opens.dropLast, c.size + u.2.length⟩
    else if u.2.length = 1 then
      if 0 ≤ o ∧ o.toNat < c.words.length then some ⟨c.above, c.words.set o.toNat (c.words.getD o.toNat (Str.ofString "") ++ u.2), c.opens, c.size + u.2.length⟩ else none
    else some ⟨c.above, c.words, c.opens, c.size + u.2.length⟩
noncomputable def readSt (us : List (Nat × PySem.Str)) : Option RdSt := us.foldlM readStep ⟨[], [], [-1], 0⟩
theorem readSt_succ {us : List (Nat × PySem.Str)} {c' : RdSt} (h : readSt us = some c') {i : Nat} {u : Nat × PySem.Str} (hu : us[i]? = some u) {c : RdSt} (hc : readSt (us.take i) = some c) : ∃ c2, readStep c u = some c2 ∧ readSt (us.take (i + 1)) = some c2 := by
  have e1 : readSt (us.take (i + 1)) = readStep c u := by
    unfold readSt at hc ⊢
    rw [List.take_add_one, hu, List.foldlM_append, hc]
    simp
  cases e2 : readStep c u with
  | some c2 => exact ⟨c2, rfl, by rw [e1, e2]⟩
  | none =>
    rw [e2] at e1
    have : readSt us = none := by
      rw [← List.take_append_drop (i + 1) us]
      unfold readSt at e1 ⊢
      rw [List.foldlM_append, e1]
      rfl
    rw [this] at h; cases h
theorem unitsF_short : ∀ (l : List Nat) (j : Nat) (b : Bool), ∀ u ∈ unitsF l j b, u.2.length ≤ 2 := by
  intro l
  have e1 : (Str.ofString "\\").length = 1 := by decide
  induction l with
  | nil =>
    intro j b u hu
    cases b
    · simp [unitsF] at hu
    · simp only [unitsF, List.mem_singleton] at hu
      rw [hu]; show (Str.ofString "\\").length ≤ 2; (first | exact om101 e1 | omega)
  | cons c r ih =>
    intro j b u hu
    cases b with
    | true =>
      rcases List.mem_cons.mp hu with rfl | hu
      · dsimp only
        rw [Str.length_append, e1]
        exact Nat.le_refl 2
      · exact ih _ _ u hu
    | false =>
      unfold unitsF at hu
      split at hu
      · exact ih _ _ u hu
      · rcases List.mem_cons.mp hu with rfl | hu
        · exact Nat.le_succ 1
        · exact ih _ _ u hu
theorem negIs {h₀ : Heap} {L : Addr} {h : Heap} {p : Addr} {i : Int} {t : Tok} {r : List (Addr × Obj)} (_ : News h₀ L h ((p, listOf #[.int i t] 0) :: r)) : ∃ l, l = t := ⟨_, rfl⟩
local macro_rules | `(tactic| k_mem) => `(tactic| first | assumption | (refine List.mem_cons_of_mem _ ?_; first | assumption | k_mem))
local macro_rules | `(tactic| k_all) => `(tactic| assumption)
local macro_rules | `(tactic| walk_at "exec For") => `(tactic| (refine Halt.mk ?_))
local macro_rules | `(tactic| walk_at "call ref") => `(tactic| (refine Halt.mk ?_))
local macro_rules | `(tactic| walk_at "pyIter ref") => `(tactic| (refine Halt.mk ?_))
local macro_rules | `(tactic| walk_at "call builtin:list.append") => `(tactic| (refine Halt.mk ?_))
local macro_rules | `(tactic| walk_at "call builtin:list.pop") => `(tactic| (refine Halt.mk ?_))
local macro_rules | `(tactic| walk_at "subscriptTail") => `(tactic| (refine Halt.mk ?_))
local macro_rules | `(tactic| walk_at "setItem ref int") => `(tactic| (refine Halt.mk ?_))
local macro_rules | `(tactic| walk_at "binaryOp Add str str") => `(tactic| (refine Halt.mk ?_))
theorem read_tells (w : World) (mean : ExcName → Option Value) (mg mb : PySem.Str → Option Value) (x : PySem.Str) (tx : Tok) (hlen : x.length ≤ 500) (hlen2 : (stripF x).length ≤ 500) (rd : RdSt) (hrd : readSt (unitsOf (stripF x)) = some rd) :
  ∀ (dp un : Nat) (gd : Option (List Code)) (cn : PySem.Str) (cs : Scope) (a : Addr) (ccd : Value) (cl : List (PySem.Str × Addr)) (outer : List Env) (A₀ : Around) (base h₀ : Heap) (L : Addr) (m : PySem.Str → Option Value) (news : List (Addr × Obj)) (s : Shared)
    (Q E : Value → Shared → Prop),
    Below A₀ base outer h₀ → Fr h₀ L s.heap m → (Mine.hd.heap_39 w.params).In h₀ → News h₀ L s.heap news → Top topProg lzz mean mg mb h₀ → NoGen news → cs.kind = .function → dp + 3 < recursionLimit → un + 24 < cLine →
    (∀ la lw lt va vw na nw h' tk' (G' : Array GenState), (AllBare s.gens → AllBare G') → IntsAre va rd.above → StrsAre vw rd.words → Fr h₀ L h' m → News h₀ L h' ((lt, tupObj #[.ref la, .ref lw]) :: (lw, listOf vw.toArray nw) :: (la, listOf va.toArray na) :: news) → (∀ p ∈ news, p.1 < la) → la < lw → lw < lt → Q (.ref lt) { s with heap := h', toks := tk', gens := G' }) →
    wpAny (model Challenge.rw_ux0024_01.row.toRowW.prog w) (ktrTop dp un gd cn cs L a ccd cl outer) (call (.ref 196) [.str x tx]) Q E s := by
  k_fill
  revert hlen hlen2 hrd
  revert lzz w mean mg mb x tx rd
  refine @pk8 _ _ _ _ _ _ _ _  ⟨default, (aWorld 0), default, default, default, default, default, default⟩ _ ?_; generalize pick8 _ _ = zz; generalize zz.1 = lzz; generalize zz.2.1 = w; generalize zz.2.2.1 = mean; generalize zz.2.2.2.1 = mg; generalize zz.2.2.2.2.1 = mb; generalize zz.2.2.2.2.2.1 = x; generalize zz.2.2.2.2.2.2.1 = tx; generalize zz.2.2.2.2.2.2.2 = rd; clear zz
  intro hlen hlen2 hrd
  intro dp un gd cn cs a ccd cl outer A₀ base h₀ L m news s Q E B F X N T hng hk hdp hu hret
  revert B F X N T hng hk hdp hu hret
  revert dp un gd cn cs a ccd cl outer A₀ base h₀ L m news s Q E
  refine pk12 (o := ⟨default, default, default, default, default, default, default, default, default, callerA, default, default⟩) ?_; generalize pick12 _ _ = zz; generalize zz.1 = dp; generalize zz.2.1 = un; generalize zz.2.2.1 = gd; generalize zz.2.2.2.1 = cn; generalize zz.2.2.2.2.1 = cs; generalize zz.2.2.2.2.2.1 = a; generalize zz.2.2.2.2.2.2.1 = ccd; generalize zz.2.2.2.2.2.2.2.1 = cl; generalize zz.2.2.2.2.2.2.2.2.1 = outer; generalize zz.2.2.2.2.2.2.2.2.2.1 = A₀; generalize zz.2.2.2.2.2.2.2.2.2.2.1 = base; generalize zz.2.2.2.2.2.2.2.2.2.2.2 = h₀; clear zz
  refine pk6 (o := ⟨default, default, default, ({} : Shared), default, default⟩) ?_; generalize pick6 _ _ = zz; generalize zz.1 = L; generalize zz.2.1 = m; generalize zz.2.2.1 = news; generalize zz.2.2.2.1 = s; generalize zz.2.2.2.2.1 = Q; generalize zz.2.2.2.2.2 = E; clear zz
  intro B F X N T hng hk hdp hu hret
  have hz := size_is
  refine wpAny_call ?_
  k_dflt cell_enter
  k_steps
  unfold Halt
  rename_i zv16 zv15 _ zv14 zv13 zv12 zv11 _ zv10 _ zv9 _ _ zv8 _ zv7 _ zv6 zv5 _ zv4 zv3 zv2 zv1 zv0
  revert zv14 zv13 zv12 zv11 zv9 zv7 zv4 zv1 zv0
  revert zv16 zv15 qk ek zv10 zv8 zv6 zv5 zv3 tk zv2
  try walk_at "mine:z"
  refine pk9 ?_; generalize pick9 _ _ = zz; generalize zz.1 = zv16; generalize zz.2.1 = zv15; generalize zz.2.2.1 = zv10; generalize zz.2.2.2.1 = zv8; generalize zz.2.2.2.2.1 = zv6; generalize zz.2.2.2.2.2.1 = zv5; generalize zz.2.2.2.2.2.2.1 = zv3; generalize zz.2.2.2.2.2.2.2.1 = tk; generalize zz.2.2.2.2.2.2.2.2 = zv2; clear zz
  intro _ _ _ _ _ _ _ _ _
  try k_fold
  refine wpAny_For ?_
  k_steps
  unfold Halt
  revert qk ek
  try walk_at "mine:z"
  try k_fold
  (rename News _ _ _ ((_, W.listOf _ _) :: (_, W.listOf #[] 0) :: (_, W.listOf #[] 0) :: news) => NA)
  obtain ⟨lo, hlo⟩ := headIs NA
  obtain ⟨tm, htm⟩ := negIs NA
  obtain ⟨lw, hlw⟩ := headIs2 NA
  obtain ⟨la, hla⟩ := headIs3 NA
  subst hlo hlw hla
  rw [← htm] at NA
  have hlt0 : ∀ p ∈ news, @LT.lt Nat _ p.1 la := (by assumption)
  (rename la < lw ∧ AllLt lw news => hlt1)
  (rename lw < lo ∧ la < lo ∧ AllLt lo news => hlt2)
  have d1 : @LT.lt Nat _ la lw := hlt1.1
  have d2 : @LT.lt Nat _ lw lo := hlt2.1
  have d3 : @LT.lt Nat _ la lo := hlt2.2.1
  refine strip_tells w mean mg mb x tx hlen _ _ _ _ _ _ _ _ _ _ _ _ _ _ _ _ _ _ (by assumption) (by assumption) (by assumption) (by assumption) (by assumption) (noGen_cons (noGen_cons (noGen_cons hng))) rfl (by show dp + 1 + 2 < _; (first | exact om93 hdp | omega)) (by show un + 3 + 16 < _; (first | exact om94 hu | omega)) ?_
  intro t1 h1 tk1 G1 hG1 F1 N1
  dsimp only at hG1
  k_steps
  unfold Halt
  rename_i zv18 zv17
  revert htm zv18 hlt1 hlt2 zv17 NA hlt0 d1 d2 d3 hG1 F1 N1
  revert lo tm lw la t1 h1 tk1 G1
  refine pk8 ?_; generalize pick8 _ _ = zz; generalize zz.1 = lo; generalize zz.2.1 = tm; generalize zz.2.2.1 = lw; generalize zz.2.2.2.1 = la; generalize zz.2.2.2.2.1 = t1; generalize zz.2.2.2.2.2.1 = h1; generalize zz.2.2.2.2.2.2.1 = tk1; generalize zz.2.2.2.2.2.2.2 = G1; clear zz
  intro htm _ hlt1 hlt2 _ NA hlt0 d1 d2 d3 hG1 F1 N1
  refine iter_tells w mean mg mb (stripF x) t1 _ _ _ _ _ _ _ _ _ _ _ _ _ _ _ _ _ _ (by assumption) (by assumption) (by assumption) (by assumption) (by assumption) rfl (by show dp + 1 + 1 < _; (first | exact om102 hdp | omega)) (by show un + 3 + 8 < _; (first | exact om103 hu | omega)) ?_
  intro I Lg nm qn h' tk' oL gs F2 N2 hlt3 hlt4 hbare hG
  revert F2 N2 hlt3 hlt4 hbare hG
  revert I Lg nm qn h' tk' oL gs
  refine pk8 (o := ⟨default, default, default, default, default, default, default, .finished⟩) ?_; generalize pick8 _ _ = zz; generalize zz.1 = I; generalize zz.2.1 = Lg; generalize zz.2.2.1 = nm; generalize zz.2.2.2.1 = qn; generalize zz.2.2.2.2.1 = h'; generalize zz.2.2.2.2.2.1 = tk'; generalize zz.2.2.2.2.2.2.1 = oL; generalize zz.2.2.2.2.2.2.2 = gs; clear zz
  intro F2 N2 hlt3 hlt4 hbare hG
  k_steps
  unfold Halt
  
  have hI : h'.get? I = some (genO G1.size nm qn) := (N2 _ (.head _)).1
  refine wpAny_pyIter_gen ⟨_, nm, qn, hI, rfl, rfl, rfl⟩ ?_
  have hILg : @LT.lt Nat _ Lg I := hlt4
  refine gen_st (σ := RdSt × Tok × List Value × List Value × List Value × Nat × Nat × Nat) (us := unitsOf (stripF x)) (g := G1.size) (nm := nm) (qn := qn) (P := [(Lg, oL)])
    (fun c => (lo, listOf c.2.2.2.2.1.toArray c.2.2.2.2.2.2.2) :: (lw, listOf c.2.2.2.1.toArray c.2.2.2.2.2.2.1) :: (la, listOf c.2.2.1.toArray c.2.2.2.2.2.1) :: news)
    (fun c => [(Str.ofString "size", .int c.1.size c.2.1)])
    (fun i c => readSt ((unitsOf (stripF x)).take i) = some c.1 ∧ IntsAre c.2.2.1 c.1.above ∧ StrsAre c.2.2.2.1 c.1.words ∧ IntsAre c.2.2.2.2.1 c.1.opens ∧ c.1.above.length ≤ i ∧ c.1.words.length ≤ i ∧ c.1.opens.length ≤ i + 1 ∧ ∀ y ∈ c.1.words, y.length ≤ i)
    (⟨[], [], [-1], 0⟩, ?t0, [], [], [.int (-1) tm], 0, 0, 0) ?hh ?hroom ?hlim rfl rfl rfl ?hcls ?hLgL ?hLgI F2 ?N ?gs (hG _ ?hh2) ?k ?hj ?turn ?done
  case N => exact fun p hp => N2 p (by
      rcases List.mem_append.mp hp with hp | hp
      · exact .tail _ (.tail _ hp)
      · rcases List.mem_cons.mp hp with rfl | hp
        · exact .head _
        · rw [List.mem_singleton.mp hp]; exact .tail _ (.head _))
  case hh => rfl
  case hh2 => rfl
  case hroom => (show dp + 1 < _; (first | exact om104 hdp | omega))
  case hlim => exact (‹Top topProg lzz mean mg mb _›).nolimit
  case hcls =>
    intro c p hp
    have q : p.1 < Lg := by
      rcases List.mem_cons.mp hp with e | hp
      · rw [show p.1 = lo by rw [e]]; exact hlt3 (lo, _) (.head _)
      · rcases List.mem_cons.mp hp with e | hp
        · rw [e]; exact hlt3 (lw, listOf #[] 0) (.tail _ (.head _))
        · rcases List.mem_cons.mp hp with e | hp
          · rw [e]; exact hlt3 (la, listOf #[] 0) (.tail _ (.tail _ (.head _)))
          · exact hlt3 _ (.tail _ (.tail _ (.tail _ hp)))
    have q : @LT.lt Nat _ p.1 Lg := q
    exact ⟨(noGen_cons (noGen_cons (noGen_cons hng))) p hp, Nat.ne_of_lt q, Nat.ne_of_lt (Nat.lt_trans q hILg)⟩
  case hLgL => exact (N2 _ (.tail _ (.head _))).2.1
  case hLgI => exact Nat.ne_of_lt hILg
  case gs => simp
  case k => 
    refine List.forall_mem_cons.mpr ⟨?_, List.forall_mem_nil _⟩
    dsimp only; rfl
  case hj => exact ⟨rfl, .nil, .nil, .cons _ _ .nil, Nat.le_refl _, Nat.le_refl _, Nat.le_refl _, fun _ hz => absurd hz (List.not_mem_nil)⟩
  case turn =>
    intro i p u tp tu c P' h tk G' hu hJ o1 o2 F3 N3
    revert c hu hJ o1 o2 F3 N3
    revert i p u tp tu P' h tk G'
    refine pk9 ?_; generalize pick9 _ _ = zz; generalize zz.1 = i; generalize zz.2.1 = p; generalize zz.2.2.1 = u; generalize zz.2.2.2.1 = tp; generalize zz.2.2.2.2.1 = tu; generalize zz.2.2.2.2.2.1 = P'; generalize zz.2.2.2.2.2.2.1 = h; generalize zz.2.2.2.2.2.2.2.1 = tk; generalize zz.2.2.2.2.2.2.2.2 = G'; clear zz
    intro c hu hJ o1 o2 F3 N3
    obtain ⟨⟨ab, wd, op, size⟩, ts, va, vw, vo, na, nw, no⟩ := c
    obtain ⟨hc, hva, hvw, hvo, ba, bw, bo, hb⟩ := hJ
    dsimp only [kstB] at hc hva hvw hvo ba bw bo hb F3 N3 o1 o2 ⊢
    obtain ⟨c2, hs, hc2⟩ := readSt_succ hrd hu hc
    unfold readStep at hs
    dsimp only at hs
    have hil : i < (unitsOf (stripF x)).length := by
      rcases Nat.lt_or_ge i (unitsOf (stripF x)).length with h | h
      · exact h
      · rw [List.getElem?_eq_none h] at hu; cases hu
    have hul := unitsOf_len (stripF x)
    have hu2 : u.length ≤ 2 := unitsF_short _ _ _ _ (List.mem_of_getElem? hu)
    have rall : ∀ q ∈ news ++ (I, genO G1.size nm qn) :: P', q.1 ≠ la ∧ q.1 ≠ lw ∧ q.1 ≠ lo := by
      intro q hq
      rcases List.mem_append.mp hq with hq | hq
      · have z := hlt0 q hq
        exact ⟨Nat.ne_of_lt z, Nat.ne_of_lt (Nat.lt_trans z d1), Nat.ne_of_lt (Nat.lt_trans z d3)⟩
      · rcases List.mem_cons.mp hq with rfl | hq
        · exact ⟨Ne.symm (o1 (la, _) (.tail _ (.tail _ (.head _)))), Ne.symm (o1 (lw, _) (.tail _ (.head _))), Ne.symm (o1 (lo, _) (.head _))⟩
        · exact ⟨o2 (la, _) (.tail _ (.tail _ (.head _))) q hq, o2 (lw, _) (.tail _ (.head _)) q hq, o2 (lo, _) (.head _) q hq⟩
    replace N3 : News _ _ h ((lo, listOf vo.toArray no) :: (lw, listOf vw.toArray nw) :: (la, listOf va.toArray na) :: (news ++ (I, genO G1.size nm qn) :: P')) := N3
    split at hs
    · cases hs
    rename_i hsz0
    have hsz : (p : Int) = size + u.length - 1 := by (first | exact om105 hsz0 | omega)
    clear hsz0
    cases hlast : op.getLast? with
    | none => rw [hlast] at hs; cases hs
    | some o =>
    rw [hlast] at hs
    dsimp only at hs
    have n1 : lo ≠ la := Nat.ne_of_gt d3
    have n2 : lw ≠ la := Nat.ne_of_gt d1
    have n3 : lo ≠ lw := Nat.ne_of_gt d2
    have n4 : la ≠ lo := Ne.symm n1
    have n5 : lw ≠ lo := Ne.symm n3
    have n6 : la ≠ lw := Ne.symm n2
    obtain ⟨tl, htl⟩ := ints_last hvo hlast
    have evw := strs_len hvw
    have hvw2 : ∀ y t, StrsAre (vw ++ [.str y t]) (wd ++ [y]) := fun y t => StrsAre.snoc hvw y t
    have eva := ints_len hva
    have evo := ints_len hvo
    k_steps
    · exfalso; (first | exact om106 hsz (by assumption) | omega)
    · unfold Halt
      rw [if_pos (by simpa using ‹(u == Str.ofString "(") = true›)] at hs
      have hs := Option.some.inj hs
      subst hs
      refine item_last (by assumption) (by k_mem) htl ?_
      k_steps
      unfold Halt
      rename_i zv22 zv21 zv20 _ zv19 _ _
      revert o1 o2 F3 hc hva hvw hvo ba bw bo hb N3 hsz o hlast htl evw hvw2 eva evo zv21 zv20 zv19 hc2 hs
      revert ab wd op size ts va vw vo na nw no tl zv22 tk
      refine pk12 ?_; generalize pick12 _ _ = zz; generalize zz.1 = ab; generalize zz.2.1 = wd; generalize zz.2.2.1 = op; generalize zz.2.2.2.1 = size; generalize zz.2.2.2.2.1 = ts; generalize zz.2.2.2.2.2.1 = va; generalize zz.2.2.2.2.2.2.1 = vw; generalize zz.2.2.2.2.2.2.2.1 = vo; generalize zz.2.2.2.2.2.2.2.2.1 = na; generalize zz.2.2.2.2.2.2.2.2.2.1 = nw; generalize zz.2.2.2.2.2.2.2.2.2.2.1 = no; generalize zz.2.2.2.2.2.2.2.2.2.2.2 = tl; clear zz
      refine pk2 ?_; generalize pick2 _ _ = zz; generalize zz.1 = zv22; generalize zz.2 = tk; clear zz
      intro o1 o2 F3 hc hva hvw hvo ba bw bo hb N3 hsz o hlast htl evw hvw2 eva evo _ _ _ hc2 hs
      refine app_led (by assumption) (by assumption) (.tail n1 (.tail n2 (.head fun q hq => (rall q hq).1))) (by (first | exact om107 hlen2 hil hul ba eva | omega)) ?_
      intro h2 F4 N4
      revert hlast htl hc2 hs F4 N4
      revert o h2
      refine pk2 ?_; generalize pick2 _ _ = zz; generalize zz.1 = o; generalize zz.2 = h2; clear zz
      intro hlast htl hc2 hs F4 N4
      k_steps
      unfold Halt
      revert tk
      refine pk1 ?_; generalize pick1 _ _ = tk
      refine app_led (by assumption) (by assumption) (.head fun q hq => by
        rcases List.mem_cons.mp hq with rfl | hq
        · exact n5
        · rcases List.mem_cons.mp hq with rfl | hq
          · exact n4
          · exact (rall q hq).2.2) (by (first | exact om108 hlen2 hil hul bo evo | omega)) ?_
      intro h3 F5 N5
      revert F5 N5
      revert h3
      refine pk1 ?_; generalize pick1 _ _ = h3
      intro F5 N5
      k_steps
      unfold Halt
      revert tk
      refine pk1 ?_; generalize pick1 _ _ = tk
      refine app_led (by assumption) (by assumption) (.tail n3 (.head fun q hq => by
        rcases List.mem_cons.mp hq with rfl | hq
        · exact n6
        · exact (rall q hq).2.1)) (by (first | exact om107 hlen2 hil hul bw evw | omega)) ?_
      intro h4 F6 N6
      revert F6 N6
      revert h4
      refine pk1 ?_; generalize pick1 _ _ = h4
      intro F6 N6
      k_steps
      refine GEnd.st (⟨ab ++ [o], wd ++ [Str.ofString ""], op ++ [(wd.length : Int)], size + u.length⟩, _, va ++ [_], vw ++ [_], vo ++ [_], na + 1, nw + 1, no + 1) (by assumption) (by assumption) (fun _ hp => hp) ⟨hc2, IntsAre.snoc hva _ _, hvw2 _ _, ?_, ?_, ?_, ?_, ?_⟩ (List.forall_mem_cons.mpr ⟨rfl, List.forall_mem_nil _⟩) ?_
      · exact IntsAre.snoc hvo _ _
      · simp; (first | exact om109 ba | omega)
      · simp; (first | exact om109 bw | omega)
      · simp; (first | exact om110 bo | omega)
      · intro y hy
        rcases List.mem_append.mp hy with hy | hy
        · exact Nat.le_succ_of_le (hb y hy)
        · rw [List.mem_singleton.mp hy, show (Str.ofString "").length = 0 by decide]; (first | exact om111 | omega)
      · intro z z1 z2 z3
        have z4 := z3 _ (List.mem_cons_self ..)
        simp [z1, z2, z4]
    · unfold Halt
      rw [if_neg (by simpa using ‹(u == Str.ofString "(") = false›), if_pos (by simpa using ‹(u == Str.ofString ")") = true›)] at hs
      have hs := Option.some.inj hs
      subst hs
      have hpos : 0 < op.length := by
        cases op with
        | nil => cases hlast
        | cons _ _ => simp
      refine pop_led (by assumption) (by assumption) (.head fun q hq => by
        rcases List.mem_cons.mp hq with rfl | hq
        · exact n5
        · rcases List.mem_cons.mp hq with rfl | hq
          · exact n4
          · exact (rall q hq).2.2) hvo hpos (by (first | exact om112 hlen2 bo hil hul evo | omega)) ?_
      intro h2 t2 F4 N4 hvo2
      rename_i zv26 zv25 zv24 _ zv23 _ _ _ _
      revert o1 o2 F3 hc hva hvw hvo ba bw bo hb N3 hsz o hlast htl evw hvw2 eva evo zv25 zv24 zv23 hc2 hs hpos F4 N4 hvo2
      revert ab wd op size ts va vw vo na nw no tl zv26 tk h2
      refine pk12 ?_; generalize pick12 _ _ = zz; generalize zz.1 = ab; generalize zz.2.1 = wd; generalize zz.2.2.1 = op; generalize zz.2.2.2.1 = size; generalize zz.2.2.2.2.1 = ts; generalize zz.2.2.2.2.2.1 = va; generalize zz.2.2.2.2.2.2.1 = vw; generalize zz.2.2.2.2.2.2.2.1 = vo; generalize zz.2.2.2.2.2.2.2.2.1 = na; generalize zz.2.2.2.2.2.2.2.2.2.1 = nw; generalize zz.2.2.2.2.2.2.2.2.2.2.1 = no; generalize zz.2.2.2.2.2.2.2.2.2.2.2 = tl; clear zz
      refine pk3 ?_; generalize pick3 _ _ = zz; generalize zz.1 = zv26; generalize zz.2.1 = tk; generalize zz.2.2 = h2; clear zz
      intro o1 o2 F3 hc hva hvw hvo ba bw bo hb N3 hsz o hlast htl evw hvw2 eva evo _ _ _ hc2 hs hpos F4 N4 hvo2
      k_steps
      refine GEnd.st (⟨ab, wd, op.dropLast, size + u.length⟩, _, va, vw, vo.dropLast, na, nw, no + 1) (by assumption) (by assumption) (fun _ hp => hp) ⟨hc2, hva, hvw, hvo2, Nat.le_succ_of_le ba, Nat.le_succ_of_le bw, ?_, fun y hy => Nat.le_succ_of_le (hb y hy)⟩ (List.forall_mem_cons.mpr ⟨rfl, List.forall_mem_nil _⟩) ?_
      · simp; (first | exact om113 bo evo | omega)
      · intro z z1 z2 z3
        have z4 := z3 _ (List.mem_cons_self ..)
        simp [z1, z2, z4]
    · unfold Halt
      rw [if_neg (by simpa using ‹(u == Str.ofString "(") = false›), if_neg (by simpa using ‹(u == Str.ofString ")") = false›), if_pos (by (first | exact om114 hsz (by assumption) | omega))] at hs
      split at hs
      · rename_i ho
        have hs := Option.some.inj hs
        subst hs
        refine item_last (by assumption) (by k_mem) htl ?_
        k_steps
        unfold Halt
        rename_i zv30 zv29 zv28 _ zv27 _ _ _ _ _ _
        revert o1 o2 F3 hc hva hvw hvo ba bw bo hb N3 hsz o hlast htl evw hvw2 eva evo zv29 zv28 zv27 ho hc2 hs
        revert ab wd op size ts va vw vo na nw no tl zv30 tk
        refine pk12 ?_; generalize pick12 _ _ = zz; generalize zz.1 = ab; generalize zz.2.1 = wd; generalize zz.2.2.1 = op; generalize zz.2.2.2.1 = size; generalize zz.2.2.2.2.1 = ts; generalize zz.2.2.2.2.2.1 = va; generalize zz.2.2.2.2.2.2.1 = vw; generalize zz.2.2.2.2.2.2.2.1 = vo; generalize zz.2.2.2.2.2.2.2.2.1 = na; generalize zz.2.2.2.2.2.2.2.2.2.1 = nw; generalize zz.2.2.2.2.2.2.2.2.2.2.1 = no; generalize zz.2.2.2.2.2.2.2.2.2.2.2 = tl; clear zz
        refine pk2 ?_; generalize pick2 _ _ = zz; generalize zz.1 = zv30; generalize zz.2 = tk; clear zz
        intro o1 o2 F3 hc hva hvw hvo ba bw bo hb N3 hsz o hlast htl evw hvw2 eva evo _ _ _ ho hc2 hs
        refine item_strs (by assumption) (by k_mem) hvw (by (first | exact om115 ho | omega)) (by (first | exact om116 evw ho | omega)) (by (first | exact om117 hlen2 hil hul bw evw ho | omega)) ?_ (by with_unfolding_all rfl)
        intro t2
        revert hlast htl ho hc2 hs
        revert o t2
        refine pk2 ?_; generalize pick2 _ _ = zz; generalize zz.1 = o; generalize zz.2 = t2; clear zz
        intro hlast htl ho hc2 hs
        k_steps
        unfold Halt
        
        have hbw : (wd.getD o.toNat (Str.ofString "")).length ≤ i := by
          rw [List.getD_eq_getElem?_getD, List.getElem?_eq_getElem ho.2]
          exact hb _ (List.getElem_mem _)
        refine PyProof.Rows.add_str ?_ (by rw [hz]; (first | exact om118 hlen2 hil hul (by assumption) hbw | omega))
        intro _ _
        k_steps
        unfold Halt
        rename_i zv32 zv31
        revert zv32 zv31
        refine pk2 ?_; generalize pick2 _ _ = zz; generalize zz.1 = zv32; generalize zz.2 = zv31; clear zz
        refine item_last (by assumption) (by k_mem) htl ?_
        k_steps
        unfold Halt
        
        refine set_led (by assumption) (by assumption) (.tail n3 (.head fun q hq => by
          rcases List.mem_cons.mp hq with rfl | hq
          · exact n6
          · exact (rall q hq).2.1)) ho.1 (by (first | exact om119 evw ho | omega)) (by (first | exact om107 hlen2 hil hul bw evw | omega)) ?_
        intro h2 F4 N4
        revert F4 N4
        revert h2
        refine pk1 ?_; generalize pick1 _ _ = h2
        intro F4 N4
        k_steps
        refine GEnd.st (⟨ab, wd.set o.toNat (wd.getD o.toNat (Str.ofString "") ++ u), op, size + u.length⟩, _, va, vw.set o.toNat _, vo, na, nw, no) (by assumption) (by assumption) (fun _ hp => hp) ⟨hc2, hva, StrsAre.set hvw _ _ _, hvo, Nat.le_succ_of_le ba, ?_, by dsimp only; (first | exact om120 bo evo | omega), ?_⟩ (List.forall_mem_cons.mpr ⟨rfl, List.forall_mem_nil _⟩) ?_
        · simp; (first | exact om121 bw evw | omega)
        · intro y hy
          rcases List.mem_or_eq_of_mem_set hy with hy | rfl
          · exact Nat.le_succ_of_le (hb y hy)
          · rw [Str.length_append]; (first | exact om122 (by assumption) hbw | omega)
        · intro z z1 z2 z3
          have z4 := z3 _ (List.mem_cons_self ..)
          simp [z1, z2, z4]
      · cases hs
    · rw [if_neg (by simpa using ‹(u == Str.ofString "(") = false›), if_neg (by simpa using ‹(u == Str.ofString ")") = false›), if_neg (by (first | exact om123 hsz (by assumption) | omega))] at hs
      have hs := Option.some.inj hs
      subst hs
      refine GEnd.st (⟨ab, wd, op, size + u.length⟩, _, va, vw, vo, na, nw, no) (by assumption) (by assumption) (fun _ hp => hp) ⟨hc2, hva, hvw, hvo, Nat.le_succ_of_le ba, Nat.le_succ_of_le bw, by dsimp only; (first | exact om120 bo evo | omega), fun y hy => Nat.le_succ_of_le (hb y hy)⟩ (List.forall_mem_cons.mpr ⟨rfl, List.forall_mem_nil _⟩) ?_
      intro z z1 z2 z3
      have z4 := z3 _ (List.mem_cons_self ..)
      simp [z1, z2, z4]
  case done =>
    intro c u h tk hJ F3 N3
    revert c hJ F3 N3
    revert u h tk
    refine pk3 ?_; generalize pick3 _ _ = zz; generalize zz.1 = u; generalize zz.2.1 = h; generalize zz.2.2 = tk; clear zz
    intro c hJ F3 N3
    obtain ⟨⟨ab, wd, op, size⟩, ts, va, vw, vo, na, nw, no⟩ := c
    obtain ⟨hc, hva, hvw, hvo, ba, bw, bo, hb⟩ := hJ
    dsimp only [kstB] at hc hva hvw hvo ba bw bo hb F3 N3 ⊢
    rw [List.take_length, hrd] at hc
    have hc := (Option.some.inj hc).symm
    subst hc
    have hbare' : AllBare s.gens → AllBare ((G1.push gs).setIfInBounds G1.size GenState.finished) := by
      intro hB y hy
      rcases Array.mem_or_eq_of_mem_setIfInBounds hy with h | h
      · exact (hG1 hB).push hbare y h
      · rw [h]; rfl
    replace N3 : News _ _ h ((lw, listOf vw.toArray nw) :: (la, listOf va.toArray na) :: news) := fun p hp => N3 p (List.mem_append_left _ (.tail _ hp))
    k_steps
    (rename _ ∧ _ ∧ AllLt _ news => hlt)
    exact hret _ _ _ _ _ _ _ _ _ _ hbare' hva hvw (by assumption) (by assumption) hlt0 d1 hlt.1
end Mine
end

section
open PySem PySem.W PyProof.Rows PySem.Calls PySem.Spec
namespace Mine
noncomputable def signAt (i : Int) : PySem.Str := Txt.item (Str.ofString "&\"<>") i
noncomputable def added : List Int := [1, 2, 7, 14, 16, 4]
noncomputable def cellF (sc : List Int) (node : Int) : Int := if node ≤ sc.length then added.getD (node - 1).toNat 0 + sc.getD (node - 1).toNat 0 else added.getD (node - 1).toNat 0
noncomputable def treeAb (sc : List Int) (i : Nat) : List Int := -1 :: (List.range i).map fun (j : Nat) => (cellF sc (1 + (j : Int))).fmod (1 + (j : Int))
noncomputable def treeSg (sc : List Int) (i : Nat) : List PySem.Str := signAt ((sc.sum.fdiv 3).fmod 4) :: (List.range i).map fun (j : Nat) => signAt (((cellF sc (1 + (j : Int))).fdiv (1 + (j : Int))).fmod 4)
theorem treeAb_succ (sc : List Int) (i : Nat) : treeAb sc (i + 1) = treeAb sc i ++ [(cellF sc (1 + (i : Int))).fmod (1 + (i : Int))] := by
  unfold treeAb
  rw [List.range_succ, List.map_append]
  rfl
theorem treeSg_succ (sc : List Int) (i : Nat) : treeSg sc (i + 1) = treeSg sc i ++ [signAt (((cellF sc (1 + (i : Int))).fdiv (1 + (i : Int))).fmod 4)] := by
  unfold treeSg
  rw [List.range_succ, List.map_append]
  rfl
theorem fits_small {i : Int} (h0 : -1000000 ≤ i) (h1 : i ≤ 1000000) : fitsSsize i = true := by
  unfold fitsSsize
  simp
  (first | exact om146 h0 h1 | omega)
section
variable {prog : Program} {w : World} {A : Around} {E : Value → Shared → Prop} {s : Shared} {value slice : PySem.Expr} {t : Tok} {Q : Value → Shared → Prop}
theorem sign_item {i : Int} {u : Tok} (h0 : 0 ≤ i) (h1 : i < 4) (h : ∀ t', Q (.str (signAt i) t') { s with toks := s.toks + 1 })
    (hs : subscripted slice false (.str (Str.ofString "&\"<>") t) (.int i u) = operate [.str (Str.ofString "&\"<>") t, .int i u] (getItem (.str (Str.ofString "&\"<>") t) (.int i u)) := by with_unfolding_all rfl)
    (ht : ∀ r, letTemporaryGo value (.str (Str.ofString "&\"<>") t) r = pure () := by intro _; with_unfolding_all rfl) :
    wpAny (model prog w) A (subscriptTail value slice (.str (Str.ofString "&\"<>") t) (.int i u)) Q E s :=
  item_str (fits_small (by (first | exact om147 h0 h1 | omega)) (by (first | exact om148 h0 h1 | omega))) (by rw [show (Str.ofString "&\"<>").length = 4 by decide]; (first | exact om149 h0 h1 | omega)) (by rw [show (Str.ofString "&\"<>").length = 4 by decide]; (first | exact om150 h1 | omega)) (fun _ => h _) hs ht
theorem item_base {l : Addr} {vs : List Value} {ss : List Int} {k : Int} {u : Tok} (hl : s.heap.IsList l vs.toArray) (hss : IntsAre vs ss)
    (h0 : 0 ≤ k) (hk : k < ss.length) (hhi : k < 2 ^ 63) (h : ∀ t, Q (.int (ss.getD k.toNat 0) t) s)
    (hs : subscripted slice false (.ref l) (.int k u) = operate [.ref l, .int k u] (getItem (.ref l) (.int k u)) := by with_unfolding_all rfl) :
    wpAny (model prog w) A (subscriptTail value slice (.ref l) (.int k u)) Q E s := by
  obtain ⟨t, ht⟩ := ints_getD hss (i := k.toNat) (by (first | exact om151 h0 hk hhi | omega))
  exact tail_any hl.typeIs slot_list_getitem.lookup (wpAny_getItem_list hl h0 hhi (by simpa using ht) (h t)) hs
end
theorem tree_heads {h₀ h : Heap} {L ls lb la : Addr} {vs va vd : List Value} {r : List (Addr × Obj)} {s1 : List PySem.Str} {s2 s3 : List Int} (N : News h₀ L h ((ls, listOf vs.toArray 0) :: (lb, listOf va.toArray 0) :: (la, listOf vd.toArray 0) :: r))
    (h1 : StrsAre vs s1) (h2 : IntsAre va s2) (h3 : IntsAre vd s3) : ∃ v1 v2 v3, News h₀ L h ((ls, listOf v1.toArray 0) :: (lb, listOf v2.toArray 0) :: (la, listOf v3.toArray 0) :: r) ∧ StrsAre v1 s1 ∧ IntsAre v2 s2 ∧ IntsAre v3 s3 := ⟨_, _, _, N, h1, h2, h3⟩
local macro_rules | `(tactic| k_mem) => `(tactic| first | assumption | (refine List.mem_cons_of_mem _ ?_; first | assumption | k_mem))
local macro_rules | `(tactic| k_all) => `(tactic| assumption)
local macro_rules | `(tactic| walk_at "call ref") => `(tactic| (refine Halt.mk ?_))
local macro_rules | `(tactic| walk_at "pyIter ref") => `(tactic| (refine Halt.mk ?_))
local macro_rules | `(tactic| walk_at "call builtin:sum") => `(tactic| (refine Halt.mk ?_))
local macro_rules | `(tactic| walk_at "call builtin:len") => `(tactic| (refine Halt.mk ?_))
local macro_rules | `(tactic| walk_at "call builtin:list.append") => `(tactic| (refine Halt.mk ?_))
local macro_rules | `(tactic| walk_at "subscriptTail") => `(tactic| (refine Halt.mk ?_))
theorem tree_tells (w : World) (mean : ExcName → Option Value) (mg mb : PySem.Str → Option Value) (lsc : Addr) (vsc : List Value) (sc : List Int) (hsc : IntsAre vsc sc) (hlen : sc.length ≤ 63) :
  ∀ (dp un : Nat) (gd : Option (List Code)) (cn : PySem.Str) (cs : Scope) (a : Addr) (ccd : Value) (cl : List (PySem.Str × Addr)) (outer : List Env) (A₀ : Around) (base h₀ : Heap) (L : Addr) (m : PySem.Str → Option Value) (news : List (Addr × Obj)) (s : Shared)
    (Q E : Value → Shared → Prop),
    Below A₀ base outer h₀ → Fr h₀ L s.heap m → (Mine.hd.heap_39 w.params).In h₀ → News h₀ L s.heap news → Top topProg lzz mean mg mb h₀ → cs.kind = .function → dp + 2 < recursionLimit → un + 16 < cLine →
    h₀.IsList lsc vsc.toArray →
    (∀ lab lsg lt va vs na ns h' tk', IntsAre va (treeAb sc 6) → StrsAre vs (treeSg sc 6) → Fr h₀ L h' m → News h₀ L h' ((lt, tupObj #[.ref lab, .ref lsg]) :: (lsg, listOf vs.toArray ns) :: (lab, listOf va.toArray na) :: news) → (∀ p ∈ news, p.1 < lab) → lab < lsg → lsg < lt → Q (.ref lt) { s with heap := h', toks := tk' }) →
    wpAny (model Challenge.rw_ux0024_01.row.toRowW.prog w) (ktrTop dp un gd cn cs L a ccd cl outer) (call (.ref 168) [.ref lsc]) Q E s := by
  k_fill
  revert hsc hlen
  revert lzz w mean mg mb lsc vsc sc
  refine @pk8 _ _ _ _ _ _ _ _  ⟨default, (aWorld 0), default, default, default, default, default, default⟩ _ ?_; generalize pick8 _ _ = zz; generalize zz.1 = lzz; generalize zz.2.1 = w; generalize zz.2.2.1 = mean; generalize zz.2.2.2.1 = mg; generalize zz.2.2.2.2.1 = mb; generalize zz.2.2.2.2.2.1 = lsc; generalize zz.2.2.2.2.2.2.1 = vsc; generalize zz.2.2.2.2.2.2.2 = sc; clear zz
  intro hsc hlen
  intro dp un gd cn cs a ccd cl outer A₀ base h₀ L m news s Q E B F X N T hk hdp hu hL hret
  revert B F X N T hk hdp hu hL hret
  revert dp un gd cn cs a ccd cl outer A₀ base h₀ L m news s Q E
  refine pk12 (o := ⟨default, default, default, default, default, default, default, default, default, callerA, default, default⟩) ?_; generalize pick12 _ _ = zz; generalize zz.1 = dp; generalize zz.2.1 = un; generalize zz.2.2.1 = gd; generalize zz.2.2.2.1 = cn; generalize zz.2.2.2.2.1 = cs; generalize zz.2.2.2.2.2.1 = a; generalize zz.2.2.2.2.2.2.1 = ccd; generalize zz.2.2.2.2.2.2.2.1 = cl; generalize zz.2.2.2.2.2.2.2.2.1 = outer; generalize zz.2.2.2.2.2.2.2.2.2.1 = A₀; generalize zz.2.2.2.2.2.2.2.2.2.2.1 = base; generalize zz.2.2.2.2.2.2.2.2.2.2.2 = h₀; clear zz
  refine pk6 (o := ⟨default, default, default, ({} : Shared), default, default⟩) ?_; generalize pick6 _ _ = zz; generalize zz.1 = L; generalize zz.2.1 = m; generalize zz.2.2.1 = news; generalize zz.2.2.2.1 = s; generalize zz.2.2.2.2.1 = Q; generalize zz.2.2.2.2.2 = E; clear zz
  intro B F X N T hk hdp hu hL hret
  have hz := size_is
  have up : ∀ {g h : Heap} {L' : Addr} {m'}, Fr h₀ L g m → Fr g L' h m' → h.IsList lsc vsc.toArray := by
    intro g h L' m' F1 F2
    obtain ⟨o, h1, h2⟩ := hL
    exact ⟨o, F2.keep _ _ (F1.keep _ _ h1), h2⟩
  refine wpAny_call ?_
  k_dflt cell_enter
  k_steps
  unfold Halt
  rename_i zv14 zv13 _ zv12 zv11 zv10 zv9 zv8 zv7 _ zv6 _ zv5 zv4 _ zv3 zv2 zv1 zv0
  revert zv12 zv11 zv10 zv9 zv6 zv3 zv1 zv0
  revert zv14 zv13 qk ek zv8 zv7 zv5 zv4 zv2 tk
  try walk_at "mine:z"
  refine pk8 ?_; generalize pick8 _ _ = zz; generalize zz.1 = zv14; generalize zz.2.1 = zv13; generalize zz.2.2.1 = zv8; generalize zz.2.2.2.1 = zv7; generalize zz.2.2.2.2.1 = zv5; generalize zz.2.2.2.2.2.1 = zv4; generalize zz.2.2.2.2.2.2.1 = zv2; generalize zz.2.2.2.2.2.2.2 = tk; clear zz
  intro _ _ _ _ _ _ _ _
  try k_fold
  (rename Fr h₀ L _ m => FG)
  (rename Fr _ _ _ _ => FA)
  (rename News _ _ _ _ => NA)
  refine sumK rfl FA NA (up FG FA) hsc ?_
  intro h1 t1 tk1 F1 N1
  k_steps
  unfold Halt
  revert F1 N1
  revert h1 t1
  refine pk2 ?_; generalize pick2 _ _ = zz; generalize zz.1 = h1; generalize zz.2 = t1; clear zz
  intro F1 N1
  have q1 : 0 ≤ (sc.sum.fdiv 3).fmod 4 := Int.fmod_nonneg_of_pos _ (by decide)
  have q2 : (sc.sum.fdiv 3).fmod 4 < 4 := Int.fmod_lt_of_pos _ (by decide)
  refine sign_item q1 q2 ?_
  intro t2
  revert t2
  refine pk1 ?_; generalize pick1 _ _ = t2
  k_steps
  unfold Halt
  rename_i zv28 _ zv27 zv26 zv25 zv24 zv23 zv22 zv21 zv20 zv19 zv18 zv17 zv16 zv15
  revert zv27 zv25 zv24 zv18 zv17 zv16 zv15
  revert zv28 zv26 tk zv23 zv22 zv21 zv20 zv19
  refine pk8 ?_; generalize pick8 _ _ = zz; generalize zz.1 = zv28; generalize zz.2.1 = zv26; generalize zz.2.2.1 = tk; generalize zz.2.2.2.1 = zv23; generalize zz.2.2.2.2.1 = zv22; generalize zz.2.2.2.2.2.1 = zv21; generalize zz.2.2.2.2.2.2.1 = zv20; generalize zz.2.2.2.2.2.2.2 = zv19; clear zz
  intro _ _ _ _ _ _ _
  (rename Fr _ _ _ _ => FB)
  (rename News _ _ _ ((_, W.listOf _ _) :: (_, W.listOf _ 0) :: (_, W.listOf _ 0) :: news) => NB)
  obtain ⟨ls, hls⟩ := headIs NB
  obtain ⟨lb, hlb⟩ := headIs2 NB
  obtain ⟨la, hla⟩ := headIs3 NB
  subst hls hlb hla
  have hlt0 : ∀ p ∈ news, @LT.lt Nat _ p.1 la := (by assumption)
  (rename la < lb ∧ AllLt lb news => hlt1)
  (rename lb < ls ∧ la < ls ∧ AllLt ls news => hlt2)
  have d1 : @LT.lt Nat _ la lb := hlt1.1
  have d2 : @LT.lt Nat _ lb ls := hlt2.1
  have d3 : @LT.lt Nat _ la ls := hlt2.2.1
  have n1 : ls ≠ lb := Nat.ne_of_gt d2
  have n2 : lb ≠ ls := Ne.symm n1
  have n3 : la ≠ lb := Nat.ne_of_lt d1
  have n4 : la ≠ ls := Nat.ne_of_lt d3
  have rall : ∀ q ∈ news, q.1 ≠ lb ∧ q.1 ≠ ls := fun q hq => ⟨Nat.ne_of_lt (Nat.lt_trans (hlt0 q hq) d1), Nat.ne_of_lt (Nat.lt_trans (hlt0 q hq) d3)⟩
  obtain ⟨v1, v2, v3, NC, hv1, hv2, hv3⟩ := tree_heads (s1 := treeSg sc 0) (s2 := treeAb sc 0) (s3 := added) NB (.cons _ _ .nil) (.cons _ _ .nil) (.cons _ _ (.cons _ _ (.cons _ _ (.cons _ _ (.cons _ _ (.cons _ _ .nil))))))
  refine rng_st 6 (σ := List Value × List Value × Nat × Nat) (fun c => (ls, listOf c.2.1.toArray c.2.2.2) :: (lb, listOf c.1.toArray c.2.2.1) :: (la, listOf v3.toArray 0) :: news) (fun _ => []) [Str.ofString "cell"]
    (fun i c => IntsAre c.1 (treeAb sc i) ∧ StrsAre c.2.1 (treeSg sc i)) (v2, v1, 0, 0) rfl (by assumption) (range_small (by (first | exact om152 | omega)) (by (first | exact om153 | omega)) (by (first | exact om72 | omega)) (by (first | exact om73 | omega))) (range_size (by (first | exact om154 | omega))) FB NC (List.forall_mem_nil _) ⟨hv2, hv1⟩ ?_ ?_
  · intro I i c t u h tk hi hc off F3 N3
    rename_i zv31 zv30 zv29
    revert zv31 hlt1 hlt2 zv30 zv29 FB NB hlt0 d1 d2 d3 n1 n2 n3 n4 rall NC hv1 hv2 hv3 hi hc off F3 N3
    revert ls lb la v1 v2 v3 I i c t u h tk
    refine pk12 ?_; generalize pick12 _ _ = zz; generalize zz.1 = ls; generalize zz.2.1 = lb; generalize zz.2.2.1 = la; generalize zz.2.2.2.1 = v1; generalize zz.2.2.2.2.1 = v2; generalize zz.2.2.2.2.2.1 = v3; generalize zz.2.2.2.2.2.2.1 = I; generalize zz.2.2.2.2.2.2.2.1 = i; generalize zz.2.2.2.2.2.2.2.2.1 = c; generalize zz.2.2.2.2.2.2.2.2.2.1 = t; generalize zz.2.2.2.2.2.2.2.2.2.2.1 = u; generalize zz.2.2.2.2.2.2.2.2.2.2.2 = h; clear zz
    refine pk1 ?_; generalize pick1 _ _ = tk
    intro _ hlt1 hlt2 _ _ FB NB hlt0 d1 d2 d3 n1 n2 n3 n4 rall NC hv1 hv2 hv3 hi hc off F3 N3
    obtain ⟨va, vs, na, ns⟩ := c
    obtain ⟨hva, hvs⟩ := hc
    dsimp only [kstB] at hva hvs F3 N3 off
    have o1 : ls ≠ I := off (ls, _) (.head _)
    have o2 : lb ≠ I := off (lb, _) (.tail _ (.head _))
    k_steps
    unfold Halt
    
    refine item_ints (by assumption) (by k_mem) hv3 (by (first | exact om155 hi | omega)) (by show _ < (6 : Int); (first | exact om156 hi | omega)) (by (first | exact om157 hi | omega)) ?_ (by with_unfolding_all rfl)
    intro t3
    revert t3
    refine pk1 ?_; generalize pick1 _ _ = t3
    k_steps
    unfold Halt
    rename_i zv34 zv33 zv32
    revert off N3 hva hvs zv33 zv32
    revert va vs na ns zv34
    refine pk5 ?_; generalize pick5 _ _ = zz; generalize zz.1 = va; generalize zz.2.1 = vs; generalize zz.2.2.1 = na; generalize zz.2.2.2.1 = ns; generalize zz.2.2.2.2 = zv34; clear zz
    intro off N3 hva hvs _ _
    (rename Fr _ _ _ _ => FD)
    have evs := ints_len hsc
    refine len_list (up FG FD) (by rw [List.size_toArray]; (first | exact om158 hlen evs | omega)) ?_
    rw [show ((vsc.toArray.size : Nat) : Int) = (sc.length : Int) by simp [evs]]
    have eva := ints_len hva
    have evs2 := strs_len hvs
    have b1 : (treeAb sc i).length = i + 1 := by simp [treeAb]
    have b2 : (treeSg sc i).length = i + 1 := by simp [treeSg]
    have hne : (1 + (i : Int)) ≠ 0 := by (first | exact om159 hi b1 b2 | omega)
    have rall2 : ∀ q ∈ (la, listOf v3.toArray 0) :: news, q.1 ≠ lb ∧ q.1 ≠ ls := by
      intro q hq
      rcases List.mem_cons.mp hq with rfl | hq
      · exact ⟨n3, n4⟩
      · exact rall q hq
    k_steps
    · unfold Halt
      (rename Fr _ _ _ _ => FE)
      refine item_base (up FG FE) hsc (by (first | exact om160 hi b1 b2 | omega)) (by (first | exact om161 evs b1 b2 (by assumption) | omega)) (by (first | exact om162 hi b1 b2 | omega)) ?_
      intro t4
      revert tk t4
      refine pk2 ?_; generalize pick2 _ _ = zz; generalize zz.1 = tk; generalize zz.2 = t4; clear zz
      k_steps
      unfold Halt
      rename_i zv37 zv36 zv35
      revert zv36 zv35
      revert zv37
      refine pk1 ?_; generalize pick1 _ _ = zv37
      intro _ _
      have hX : added.getD (1 + (i : Int) - 1).toNat 0 + sc.getD (1 + (i : Int) - 1).toNat 0 = cellF sc (1 + (i : Int)) := by unfold cellF; rw [if_pos (by assumption)]
      have p1 : 0 ≤ ((added.getD (1 + (i : Int) - 1).toNat 0 + sc.getD (1 + (i : Int) - 1).toNat 0).fdiv (1 + (i : Int))).fmod 4 := Int.fmod_nonneg_of_pos _ (by decide)
      have p2 : ((added.getD (1 + (i : Int) - 1).toNat 0 + sc.getD (1 + (i : Int) - 1).toNat 0).fdiv (1 + (i : Int))).fmod 4 < 4 := Int.fmod_lt_of_pos _ (by decide)
      refine app_led (by assumption) (by assumption) (.tail (Ne.symm o2) (.tail n1 (.head fun q hq => (rall2 q hq).1))) (by (first | exact om163 hi eva b1 b2 | omega)) ?_
      intro h4 F4 N4
      revert F4 N4
      revert h4
      refine pk1 ?_; generalize pick1 _ _ = h4
      intro F4 N4
      k_steps
      unfold Halt
      revert tk
      refine pk1 ?_; generalize pick1 _ _ = tk
      refine sign_item p1 p2 ?_
      intro t5
      revert t5
      refine pk1 ?_; generalize pick1 _ _ = t5
      k_steps
      unfold Halt
      
      refine app_led (by assumption) (by assumption) (.tail (Ne.symm o1) (.head fun q hq => by
        rcases List.mem_cons.mp hq with rfl | hq
        · exact n2
        · exact (rall2 q hq).2)) (by (first | exact om164 hi evs2 b1 b2 | omega)) ?_
      intro h5 F5 N5
      revert F5 N5
      revert h5
      refine pk1 ?_; generalize pick1 _ _ = h5
      intro F5 N5
      k_steps
      refine UnrEnd.st (va ++ [_], vs ++ [_], na + 1, ns + 1) (by assumption) (by assumption) (fun p hp => ?_) (.head _) (fun p hp => List.mem_cons_of_mem _ hp) ⟨?_, ?_⟩ (List.forall_mem_nil _) ?_
      · rcases List.mem_cons.mp hp with rfl | hp
        · exact o1
        · rcases List.mem_cons.mp hp with rfl | hp
          · exact o2
          · exact off _ (.tail _ (.tail _ hp))
      · rw [treeAb_succ, ← hX]; exact IntsAre.snoc hva _ _
      · rw [treeSg_succ, ← hX]; exact StrsAre.snoc hvs _ _
      · intro z z1 _ z3
        have z4 : z ≠ Str.ofString "cell" := by rintro rfl; revert z3; decide
        simp [z1, z4, z3]
    · unfold Halt
      have hX : added.getD (1 + (i : Int) - 1).toNat 0 = cellF sc (1 + (i : Int)) := by unfold cellF; rw [if_neg (by assumption)]
      have p1 : 0 ≤ ((added.getD (1 + (i : Int) - 1).toNat 0).fdiv (1 + (i : Int))).fmod 4 := Int.fmod_nonneg_of_pos _ (by decide)
      have p2 : ((added.getD (1 + (i : Int) - 1).toNat 0).fdiv (1 + (i : Int))).fmod 4 < 4 := Int.fmod_lt_of_pos _ (by decide)
      refine app_led (by assumption) (by assumption) (.tail (Ne.symm o2) (.tail n1 (.head fun q hq => (rall2 q hq).1))) (by (first | exact om163 hi eva b1 b2 | omega)) ?_
      intro h4 F4 N4
      revert F4 N4
      revert tk h4
      refine pk2 ?_; generalize pick2 _ _ = zz; generalize zz.1 = tk; generalize zz.2 = h4; clear zz
      intro F4 N4
      k_steps
      unfold Halt
      revert tk
      refine pk1 ?_; generalize pick1 _ _ = tk
      refine sign_item p1 p2 ?_
      intro t5
      revert t5
      refine pk1 ?_; generalize pick1 _ _ = t5
      k_steps
      unfold Halt
      
      refine app_led (by assumption) (by assumption) (.tail (Ne.symm o1) (.head fun q hq => by
        rcases List.mem_cons.mp hq with rfl | hq
        · exact n2
        · exact (rall2 q hq).2)) (by (first | exact om164 hi evs2 b1 b2 | omega)) ?_
      intro h5 F5 N5
      revert F5 N5
      revert h5
      refine pk1 ?_; generalize pick1 _ _ = h5
      intro F5 N5
      k_steps
      refine UnrEnd.st (va ++ [_], vs ++ [_], na + 1, ns + 1) (by assumption) (by assumption) (fun p hp => ?_) (.head _) (fun p hp => List.mem_cons_of_mem _ hp) ⟨?_, ?_⟩ (List.forall_mem_nil _) ?_
      · rcases List.mem_cons.mp hp with rfl | hp
        · exact o1
        · rcases List.mem_cons.mp hp with rfl | hp
          · exact o2
          · exact off _ (.tail _ (.tail _ hp))
      · rw [treeAb_succ, ← hX]; exact IntsAre.snoc hva _ _
      · rw [treeSg_succ, ← hX]; exact StrsAre.snoc hvs _ _
      · intro z z1 _ z3
        have z4 : z ≠ Str.ofString "cell" := by rintro rfl; revert z3; decide
        simp [z1, z4, z3]
  · intro c u h tk hc F3 N3
    rename_i zv40 zv39 zv38
    revert zv40 hlt1 hlt2 zv39 zv38 FB NB hlt0 d1 d2 d3 n1 n2 n3 n4 rall NC hv1 hv2 hv3 hc F3 N3
    revert ls lb la v1 v2 v3 c u h tk
    refine pk10 ?_; generalize pick10 _ _ = zz; generalize zz.1 = ls; generalize zz.2.1 = lb; generalize zz.2.2.1 = la; generalize zz.2.2.2.1 = v1; generalize zz.2.2.2.2.1 = v2; generalize zz.2.2.2.2.2.1 = v3; generalize zz.2.2.2.2.2.2.1 = c; generalize zz.2.2.2.2.2.2.2.1 = u; generalize zz.2.2.2.2.2.2.2.2.1 = h; generalize zz.2.2.2.2.2.2.2.2.2 = tk; clear zz
    intro _ hlt1 hlt2 _ _ FB NB hlt0 d1 d2 d3 n1 n2 n3 n4 rall NC hv1 hv2 hv3 hc F3 N3
    obtain ⟨va, vs, na, ns⟩ := c
    obtain ⟨hva, hvs⟩ := hc
    dsimp only [kstB] at hva hvs F3 N3
    replace N3 : News _ _ h ((ls, listOf vs.toArray ns) :: (lb, listOf va.toArray na) :: news) := fun p hp => N3 p (by
      rcases List.mem_cons.mp hp with rfl | hp
      · exact .head _
      · rcases List.mem_cons.mp hp with rfl | hp
        · exact .tail _ (.head _)
        · exact .tail _ (.tail _ (.tail _ hp)))
    k_steps
    (rename _ ∧ _ ∧ AllLt _ news => hlt)
    exact hret _ _ _ _ _ _ _ _ _ hva hvs (by assumption) (by assumption) (fun p hp => Nat.lt_trans (hlt0 p hp) d1) d2 hlt.1
end Mine
end

section
open PySem PySem.W PyProof.Rows PySem.Calls PySem.Spec
namespace Mine
section
variable {prog : Program} {w : World} {A : Around} {E : Value → Shared → Prop} {s : Shared} {K : Frag} {x C L f : Addr} {h₀ : Heap} {m : PySem.Str → Option Value} {ox : Obj} {od : Option Obj} {y : PySem.Str} {t : Tok} {Q : Value → Shared → Prop}
theorem str_lt_declines (hx : s.heap.get? x = some ox) (hd : ox.data = .plain) (hq : Q .notImplemented s) : wpAny (model prog w) A (call (.builtin "str.__lt__") [.str y t, .ref x]) Q E s := by
  refine wpAny_call_entry slot_str_lt (typeIs_str s y t) entry_str_lt ?_ (args_str_lt _ _)
  show wpAny _ _ (asStr? (.ref x) >>= fun r => match r with | some o => ret (.bool (decide (y.cps.toList < o.cps.toList))) | none => do rule "str.__lt__.not-a-str"; ret .notImplemented) _ _ s
  unfold asStr?
  refine wpAny_bind (wpAny_bind (wpAny_load hx ?_))
  rw [hd]
  exact wpAny_pure (wpAny_bind (wpAny_rule (wpAny_pure ⟨_, rfl, hq⟩)))
theorem cmp_str_ref (hu : A.units < cLine) (F : Fr h₀ L s.heap m) (X₀ : K.In h₀) (I : InstAt s.heap x ox C od) (hdat : ox.data = .plain) (hsub : subIn K (.ref C) (.type "str") = some false)
    (hs : findIn K (.ref C) "__gt__" = some (some (.ref f))) (hf : isFn K (.ref f) = true)
    (h : wpAny (model prog w) A (call (.ref f) [.ref x, .str y t]) (PySem.W.CmpBack Q) E s) : wpAny (model prog w) A (richCompare .Lt (.str y t) (.ref x)) Q E s := by
  have X := X₀.keeps F.keep
  have one : wpAny (model prog w) A (tryCompare (.ref x) "__gt__" (.str y t)) (fun r s' => ∃ v, r = some v ∧ Q v s') E s := by
    unfold tryCompare
    refine wpAny_bind (ifBound_K X I hs hf (wpAny_mono h (fun v s' hv => ?_) fun _ _ e => e))
    cases v <;> first | exact hv.elim | exact wpAny_pure ⟨_, rfl, hv⟩
  simp only [richCompare, cmpInfo, (typeIs_str s y t).oneThing_none]
  refine wpAny_holding ?_
  refine wpAny_bind (wpAny_cRoomFor hu ?_)
  refine wpAny_bind (wpAny_typeOf (typeIs_str s y t) (wpAny_bind (I.type.here ?_)))
  rw [if_pos (by rfl)]
  refine wpAny_bind ((looks_subIn X hsub).here ?_)
  simp only [Bool.false_eq_true, if_false, Bool.not_false, if_true]
  refine wpAny_bind (m := tryCompare _ _ _) (wpAny_tryCompare_declines (typeIs_str s y t) slot_str_lt (str_lt_declines I.at_ hdat ⟨rfl, ?_⟩))
  refine wpAny_bind (m := tryCompare _ _ _) (wpAny_mono one (fun r s' z => ?_) fun _ _ e => e)
  obtain ⟨v, rfl, hq⟩ := z
  exact wpAny_pure hq
end
abbrev qDict (w : World) (x : PySem.Str) (tk tx : Tok) : Obj := dictOf [{ hash := PyData.keyHash w.params (Str.ofString "text"), key := Value.str (Str.ofString "text") tk, val := Value.str x tx }] 1
local macro_rules | `(tactic| k_mem) => `(tactic| first | assumption | (refine List.mem_cons_of_mem _ ?_; first | assumption | k_mem))
theorem qlt_q (w : World) (mean : ExcName → Option Value) (mg mb : PySem.Str → Option Value) (xq xd yq yd : Addr) (x y : PySem.Str) (t1 t2 t3 t4 : Tok)  :
  ∀ (dp un : Nat) (gd : Option (List Code)) (cn : PySem.Str) (cs : Scope) (a : Addr) (ccd : Value) (cl : List (PySem.Str × Addr)) (outer : List Env) (A₀ : Around) (base h₀ : Heap) (L : Addr) (m : PySem.Str → Option Value) (news : List (Addr × Obj)) (s : Shared)
    (Q E : Value → Shared → Prop),
    Below A₀ base outer h₀ → Fr h₀ L s.heap m → (Mine.hd.heap_39 w.params).In h₀ → News h₀ L s.heap news → Top topProg lzz mean mg mb h₀ → cs.kind = .function → dp + 3 < recursionLimit → un + 24 < cLine →
    (xq, instObj 129 xd) ∈ news → (xd, qDict w x t1 t2) ∈ news → (yq, instObj 129 yd) ∈ news → (yd, qDict w y t3 t4) ∈ news →
    (∀ h' tk', Fr h₀ L h' m → News h₀ L h' news → Q (.bool (decide (x.cps.toList < y.cps.toList))) { s with heap := h', toks := tk' }) →
    wpAny (model Challenge.rw_ux0024_01.row.toRowW.prog w) (ktrTop dp un gd cn cs L a ccd cl outer) (call (.ref 105) [.ref xq, .ref yq]) Q E s := by
  k_fill
  intro dp un gd cn cs a ccd cl outer A₀ base h₀ L m news s Q E B F X N T hk hdp hu hm1 hm2 hm3 hm4 hret
  refine wpAny_call ?_
  k_dflt walk_at "mine:own_enter"
  k_steps
  exact hret _ _ (by assumption) (by assumption)
theorem qlt_s (w : World) (mean : ExcName → Option Value) (mg mb : PySem.Str → Option Value) (xq xd : Addr) (x y : PySem.Str) (t1 t2 t3 : Tok)  :
  ∀ (dp un : Nat) (gd : Option (List Code)) (cn : PySem.Str) (cs : Scope) (a : Addr) (ccd : Value) (cl : List (PySem.Str × Addr)) (outer : List Env) (A₀ : Around) (base h₀ : Heap) (L : Addr) (m : PySem.Str → Option Value) (news : List (Addr × Obj)) (s : Shared)
    (Q E : Value → Shared → Prop),
    Below A₀ base outer h₀ → Fr h₀ L s.heap m → (Mine.hd.heap_39 w.params).In h₀ → News h₀ L s.heap news → Top topProg lzz mean mg mb h₀ → cs.kind = .function → dp + 3 < recursionLimit → un + 24 < cLine →
    (xq, instObj 129 xd) ∈ news → (xd, qDict w x t1 t2) ∈ news →
    (∀ h' tk', Fr h₀ L h' m → News h₀ L h' news → Q (.bool (decide (x.cps.toList < y.cps.toList))) { s with heap := h', toks := tk' }) →
    wpAny (model Challenge.rw_ux0024_01.row.toRowW.prog w) (ktrTop dp un gd cn cs L a ccd cl outer) (call (.ref 105) [.ref xq, .str y t3]) Q E s := by
  k_fill
  intro dp un gd cn cs a ccd cl outer A₀ base h₀ L m news s Q E B F X N T hk hdp hu hm1 hm2 hret
  refine wpAny_call ?_
  k_dflt walk_at "mine:own_enter"
  k_steps
  exact hret _ _ (by assumption) (by assumption)
theorem sltq (w : World) (mean : ExcName → Option Value) (mg mb : PySem.Str → Option Value) (xq xd : Addr) (x y : PySem.Str) (t1 t2 t3 : Tok)  :
  ∀ (dp un : Nat) (gd : Option (List Code)) (cn : PySem.Str) (cs : Scope) (a : Addr) (ccd : Value) (cl : List (PySem.Str × Addr)) (outer : List Env) (A₀ : Around) (base h₀ : Heap) (L : Addr) (m : PySem.Str → Option Value) (news : List (Addr × Obj)) (s : Shared)
    (Q E : Value → Shared → Prop),
    Below A₀ base outer h₀ → Fr h₀ L s.heap m → (Mine.hd.heap_39 w.params).In h₀ → News h₀ L s.heap news → Top topProg lzz mean mg mb h₀ → cs.kind = .function → dp + 3 < recursionLimit → un + 24 < cLine →
    (xq, instObj 129 xd) ∈ news → (xd, qDict w x t1 t2) ∈ news →
    (∀ h' tk', Fr h₀ L h' m → News h₀ L h' news → Q (.bool (decide (y.cps.toList < x.cps.toList))) { s with heap := h', toks := tk' }) →
    wpAny (model Challenge.rw_ux0024_01.row.toRowW.prog w) (ktrTop dp un gd cn cs L a ccd cl outer) (compareOp .Lt (.str y t3) (.ref xq)) Q E s := by
  k_fill
  intro dp un gd cn cs a ccd cl outer A₀ base h₀ L m news s Q E B F X N T hk hdp hu hm1 hm2 hret
  refine cmp_ofLt ?_
  k_dflt (refine' cmp_str_ref ?k1 ?k2 ?k3 ?k4 ?kd ?k5 ?k6 ?k7 ?_; (case k1 => (show un < _; (first | exact om265 hu | omega))); (case k2 => k_asm); (case k3 => k_asm); (case k4 => k_inst); (case kd => rfl); (case k5 => k_is); (case k6 => k_is); (case k7 => k_is); k_whole)
  refine wpAny_call ?_
  k_dflt walk_at "mine:own_enter"
  k_steps
  exact hret _ _ (by assumption) (by assumption)
end Mine
end

section
open PySem PySem.W PyProof.Rows PySem.Calls PySem.Spec
namespace Mine
section
variable {prog : Program} {w : World} {A : Around} {E : Value → Shared → Prop} {env : Env} {test : PySem.Expr} {body orelse : List Stmt} {Q : Flow → Shared → Prop}
/-- a while loop by an invariant over a state: named locals, forgotten names, all else as it stood -/
theorem whl_st {σ : Type} {h₀ : Heap} {L : Addr} {m₀ : PySem.Str → Option Value} {s : Shared} (Led : σ → List (Addr × Obj)) (ps : σ → List (PySem.Str × Value)) (stored : List PySem.Str) (μ : σ → Nat) (J : σ → Prop) (c₀ : σ)
    (F : Fr h₀ L s.heap m₀) (N : News h₀ L s.heap (Led c₀)) (hk : ∀ p ∈ ps c₀, m₀ p.1 = some p.2) (hj : J c₀)
    (turn : ∀ c (u : PySem.Str → Option Value) h tk, J c → Fr h₀ L h (kstB (fun z => if stored.contains z then u z else m₀ z) (ps c)) → News h₀ L h (Led c) →
      (∀ c' m' nx h' tk', J c' → μ c' < μ c → Fr h₀ L h' m' → News h₀ L h' nx → (∀ p ∈ Led c', p ∈ nx) → (∀ p ∈ ps c', m' p.1 = some p.2) → (∀ z, (∀ p ∈ ps c', z ≠ p.1) → stored.contains z = false → m' z = m₀ z) →
        WhlRest prog w A E env test body orelse Q 0 { s with heap := h', toks := tk' }) →
      WhlRest prog w A E env test body orelse Q 1 { s with heap := h, toks := tk }) (k : Nat) :
    WhlRest prog w A E env test body orelse Q k s := by
  have all : ∀ n c m nx h tk, μ c < n → J c → Fr h₀ L h m → News h₀ L h nx → (∀ p ∈ Led c, p ∈ nx) → (∀ p ∈ ps c, m p.1 = some p.2) → (∀ z, (∀ p ∈ ps c, z ≠ p.1) → stored.contains z = false → m z = m₀ z) →
      WhlRest prog w A E env test body orelse Q 0 { s with heap := h, toks := tk } := by
    intro n
    induction n with
    | zero => intro c m nx h tk hn; (first | exact om165 hn | omega)
    | succ n ih =>
      intro c m nx h tk hn hJ F N hs h1 h2
      refine turn c m h tk hJ ?_ (fun p hp => N p (hs p hp)) fun c' m' nx' h' tk' hJ' hl F' N' hs' h1' h2' => ih c' m' nx' h' tk' (by (first | exact om166 hn hl | omega)) hJ' F' N' hs' h1' h2'
      have em : kstB (fun z => if stored.contains z then m z else m₀ z) (ps c) = m := by
        funext y
        refine kstB_eq h1 fun hn' => ?_
        by_cases e : stored.contains y
        · rw [if_pos e]
        · rw [if_neg e]
          exact (h2 y hn' (by simpa using e)).symm
      rw [em]
      exact F
  exact all (μ c₀ + 1) c₀ m₀ _ s.heap s.toks (Nat.lt_succ_self _) hj F N (fun _ hp => hp) hk fun _ _ _ => rfl
end
theorem tokOf {h₀ h : Heap} {L : Addr} {m : PySem.Str → Option Value} (_ : Fr h₀ L h m) {x : PySem.Str} {a b : Int} {t : Tok} (e : m x = some (.int a t)) (hab : a = b) : ∃ t, m x = some (.int b t) := ⟨t, by rw [e, hab]⟩
theorem int_eq {a b : Int} {t : Tok} (h : a = b) : some (Value.int a t) = some (Value.int b t) := by rw [h]
/-- what a call of a key function answers: a QName of the text f tells -/
noncomputable def KeyTells (w : World) (mean : ExcName → Option Value) (mg mb : PySem.Str → Option Value) (lzz : List PySem.Str) (lam : Addr) (news : List (Addr × Obj)) (n : Nat) (f : Int → PySem.Str) : Prop :=
  ∀ (i : Int) (ti : Tok), 0 ≤ i → i < n → ∀ (dp un : Nat) (gd : Option (List Code)) (cn : PySem.Str) (cs : Scope) (a : Addr) (ccd : Value) (cl : List (PySem.Str × Addr)) (outer : List Env) (A₀ : Around) (base h₀ : Heap) (L : Addr) (m : PySem.Str → Option Value) (more : List (Addr × Obj)) (s : Shared)
    (Q E : Value → Shared → Prop),
    Below A₀ base outer h₀ → Fr h₀ L s.heap m → (Mine.hd.heap_39 w.params).In h₀ → News h₀ L s.heap more → (∀ p ∈ news, p ∈ more) → Top topProg lzz mean mg mb h₀ → cs.kind = .function → dp + 3 < recursionLimit → un + 24 < cLine →
    (∀ q d tk tx h' tk', Fr h₀ L h' m → News h₀ L h' ((q, instObj 129 d) :: (d, qDict w (f i) tk tx) :: more) → (∀ p ∈ more, p.1 < d) → d < q → Q (.ref q) { s with heap := h', toks := tk' }) →
    wpAny (model Challenge.rw_ux0024_01.row.toRowW.prog w) (ktrTop dp un gd cn cs L a ccd cl outer) (call (.ref lam) [.int i ti]) Q E s
local macro_rules | `(tactic| k_mem) => `(tactic| first | assumption | (refine List.mem_cons_of_mem _ ?_; first | assumption | k_mem))
local macro_rules | `(tactic| walk_at "call ref") => `(tactic| (refine Halt.mk ?_))
local macro_rules | `(tactic| walk_at "callWith ref") => `(tactic| (k_here; k_dflt (first
  | (refine' callWith_F ?k1 ?_; (case k1 => exact FnAt.of (by k_asm) (by k_mem)); k_whole)
  | (refine' callWith_F0 ?k1 ?_; (case k1 => exact FnAt.of (by k_asm) (by k_mem)); k_whole; try dsimp only [List.nil_append, List.cons_append]))))
local macro_rules | `(tactic| walk_at "call builtin:len") => `(tactic| (refine Halt.mk ?_))
local macro_rules | `(tactic| walk_at "subscriptTail") => `(tactic| (refine Halt.mk ?_))
local macro_rules | `(tactic| walk_at "exec While Compare") => `(tactic| (refine Halt.mk ?_))
local macro_rules | `(tactic| walk_at "exec While") => `(tactic| (refine Halt.mk ?_))
local macro_rules | `(tactic| walk_at "WhlRest") => `(tactic| (refine Halt.mk ?_))
local macro_rules | `(tactic| walk_at "compareOp Lt ref") => `(tactic| (refine Halt.mk ?_))
local macro_rules | `(tactic| walk_at "compareOp Lt ref ref") => `(tactic| (refine Halt.mk ?_))
local macro_rules | `(tactic| walk_at "compareOp Lt str ref") => `(tactic| (refine Halt.mk ?_))
theorem bisR_q (w : World) (mean : ExcName → Option Value) (mg mb : PySem.Str → Option Value) (lr lam xq xd : Addr) (vr : List Value) (row : List Int) (nr : Nat) (x : PySem.Str) (t1 t2 t0 : Tok) (f : Int → PySem.Str) (cut : Nat) (oc : Value) (od : Option Addr) (fd : FuncData) (sl : Array (Option Value))
    (hrow : IntsAre vr row) (hsz : row.length ≤ 7) (hr : ∀ i : Nat, i < row.length → 0 ≤ row.getD i 0 ∧ row.getD i 0 < 7) (hcut : cut ≤ row.length)
    (hp : ∀ i : Nat, i < row.length → decide (x.cps.toList < (f (row.getD i 0)).cps.toList) = decide (cut ≤ i)) :
  ∀ (dp un : Nat) (gd : Option (List Code)) (cn : PySem.Str) (cs : Scope) (a : Addr) (ccd : Value) (cl : List (PySem.Str × Addr)) (outer : List Env) (A₀ : Around) (base h₀ : Heap) (L : Addr) (m : PySem.Str → Option Value) (news : List (Addr × Obj)) (s : Shared)
    (Q E : Value → Shared → Prop),
    Below A₀ base outer h₀ → Fr h₀ L s.heap m → (Mine.hd.heap_39 w.params).In h₀ → News h₀ L s.heap news → Top topProg lzz mean mg mb h₀ → cs.kind = .function → dp + 5 < recursionLimit → un + 40 < cLine →
    (lr, listOf vr.toArray nr) ∈ news → KeyTells w mean mg mb lzz lam news 7 f → (lam, (⟨oc, od, .func fd, sl⟩ : Obj)) ∈ news → (xq, instObj 129 xd) ∈ news → (xd, qDict w x t1 t2) ∈ news → 
    (∀ t h' tk', Fr h₀ L h' m → News h₀ L h' news → Q (.int (cut : Nat) t) { s with heap := h', toks := tk' }) →
    wpAny (model Challenge.rw_ux0024_01.row.toRowW.prog w) (ktrTop dp un gd cn cs L a ccd cl outer) (call (.ref 32) [.ref lr, .ref xq, .int 0 t0, .none] [(Str.ofString "key", .ref lam)]) Q E s := by
  k_fill
  revert hrow hsz hr hcut hp
  revert lzz w mean mg mb lr lam xq xd vr row nr x t1 t2 t0 f cut oc od fd sl
  refine @pk12 _ _ _ _ _ _ _ _ _ _ _ _  ⟨default, (aWorld 0), default, default, default, default, default, default, default, default, default, default⟩ _ ?_; generalize pick12 _ _ = zz; generalize zz.1 = lzz; generalize zz.2.1 = w; generalize zz.2.2.1 = mean; generalize zz.2.2.2.1 = mg; generalize zz.2.2.2.2.1 = mb; generalize zz.2.2.2.2.2.1 = lr; generalize zz.2.2.2.2.2.2.1 = lam; generalize zz.2.2.2.2.2.2.2.1 = xq; generalize zz.2.2.2.2.2.2.2.2.1 = xd; generalize zz.2.2.2.2.2.2.2.2.2.1 = vr; generalize zz.2.2.2.2.2.2.2.2.2.2.1 = row; generalize zz.2.2.2.2.2.2.2.2.2.2.2 = nr; clear zz
  refine @pk10 _ _ _ _ _ _ _ _ _ _ inferInstance _ ?_; generalize pick10 _ _ = zz; generalize zz.1 = x; generalize zz.2.1 = t1; generalize zz.2.2.1 = t2; generalize zz.2.2.2.1 = t0; generalize zz.2.2.2.2.1 = f; generalize zz.2.2.2.2.2.1 = cut; generalize zz.2.2.2.2.2.2.1 = oc; generalize zz.2.2.2.2.2.2.2.1 = od; generalize zz.2.2.2.2.2.2.2.2.1 = fd; generalize zz.2.2.2.2.2.2.2.2.2 = sl; clear zz
  intro hrow hsz hr hcut hp
  intro dp un gd cn cs a ccd cl outer A₀ base h₀ L m news s Q E B F X N T hk hdp hu hm1 hkey hm4 hm2 hm3 hret
  revert B F X N T hk hdp hu hm1 hkey hm4 hm2 hm3 hret
  revert dp un gd cn cs a ccd cl outer A₀ base h₀ L m news s Q E
  refine pk12 (o := ⟨default, default, default, default, default, default, default, default, default, callerA, default, default⟩) ?_; generalize pick12 _ _ = zz; generalize zz.1 = dp; generalize zz.2.1 = un; generalize zz.2.2.1 = gd; generalize zz.2.2.2.1 = cn; generalize zz.2.2.2.2.1 = cs; generalize zz.2.2.2.2.2.1 = a; generalize zz.2.2.2.2.2.2.1 = ccd; generalize zz.2.2.2.2.2.2.2.1 = cl; generalize zz.2.2.2.2.2.2.2.2.1 = outer; generalize zz.2.2.2.2.2.2.2.2.2.1 = A₀; generalize zz.2.2.2.2.2.2.2.2.2.2.1 = base; generalize zz.2.2.2.2.2.2.2.2.2.2.2 = h₀; clear zz
  refine pk6 (o := ⟨default, default, default, ({} : Shared), default, default⟩) ?_; generalize pick6 _ _ = zz; generalize zz.1 = L; generalize zz.2.1 = m; generalize zz.2.2.1 = news; generalize zz.2.2.2.1 = s; generalize zz.2.2.2.2.1 = Q; generalize zz.2.2.2.2.2 = E; clear zz
  intro B F X N T hk hdp hu hm1 hkey hm4 hm2 hm3 hret
  have evr := ints_len hrow
  refine wpAny_call ?_
  k_dflt walk_at "mine:own_enter"
  k_steps
  unfold Halt
  rename_i zv8 zv7 zv6 zv5 zv4 zv3 zv2 zv1 zv0 _
  revert zv5 zv4 zv3 zv2 zv1 zv0
  revert zv8 zv7 zv6 qk ek tk
  try walk_at "mine:z"
  refine pk4 ?_; generalize pick4 _ _ = zz; generalize zz.1 = zv8; generalize zz.2.1 = zv7; generalize zz.2.2.1 = zv6; generalize zz.2.2.2 = tk; clear zz
  intro _ _ _ _ _ _
  try k_fold
  (rename News _ _ _ _ => NA)
  refine len_list ⟨_, (NA _ hm1).1, rfl, _, rfl⟩ (by rw [List.size_toArray]; (first | exact om167 hsz evr | omega)) ?_
  rw [show ((vr.toArray.size : Nat) : Int) = (row.length : Int) by simp [evr]]
  k_steps
  unfold Halt
  rename_i zv11 zv10 zv9
  revert zv10 zv9
  revert zv11 tk
  refine pk2 ?_; generalize pick2 _ _ = zz; generalize zz.1 = zv11; generalize zz.2 = tk; clear zz
  intro _ _
  refine whl_start 1 ?_
  (rename Fr _ _ _ _ => FA)
  (rename News _ _ _ _ => NB)
  refine whl_st (σ := Nat × Nat × Tok × Tok) (fun _ => news) (fun c => [(Str.ofString "lo", .int c.1 c.2.2.1), (Str.ofString "hi", .int c.2.1 c.2.2.2)]) [Str.ofString "mid"] (fun c => c.2.1 - c.1) (fun c => c.1 ≤ cut ∧ cut ≤ c.2.1 ∧ c.2.1 ≤ row.length) (0, row.length, ?tl, ?th) FA NB ?k ⟨Nat.zero_le _, hcut, Nat.le_refl _⟩ ?turn 1
  case k => exact List.forall_mem_cons.mpr ⟨by dsimp only; rfl, List.forall_mem_cons.mpr ⟨by dsimp only; rfl, List.forall_mem_nil _⟩⟩
  case turn =>
   intro c u h tk hJ F1 N1 IH
   revert hJ F1 N1 IH
   revert c u h tk
   refine pk4 ?_; generalize pick4 _ _ = zz; generalize zz.1 = c; generalize zz.2.1 = u; generalize zz.2.2.1 = h; generalize zz.2.2.2 = tk; clear zz
   intro hJ F1 N1 IH
   obtain ⟨lo, hi, tl, th⟩ := c
   obtain ⟨h1, h2, h3⟩ := hJ
   dsimp only [kstB] at h1 h2 h3 F1 N1 IH
   refine whl_turn (by first | passes_own | with_unfolding_all passes_own) ?_
   k_steps
   by_cases hlt : lo < hi
   · refine WhlIf.yes (by simpa using hlt) ?_
     k_steps
     unfold Halt
     rename_i zv14 zv13 zv12
     revert IH h1 h2 h3 hlt zv13 zv12
     revert lo hi tl th zv14
     refine pk5 ?_; generalize pick5 _ _ = zz; generalize zz.1 = lo; generalize zz.2.1 = hi; generalize zz.2.2.1 = tl; generalize zz.2.2.2.1 = th; generalize zz.2.2.2.2 = zv14; clear zz
     intro IH h1 h2 h3 hlt _ _
     have hmid : ((lo : Int) + (hi : Int)).fdiv 2 = (((lo + hi) / 2 : Nat) : Int) := by
       rw [Int.fdiv_eq_ediv_of_nonneg _ (by decide)]
       (first | exact om168 | omega)
     have hmid2 : ((lo : Int) + (hi : Int)).fdiv 2 + 1 = (((lo + hi) / 2 + 1 : Nat) : Int) := by (first | exact om169 hmid | omega)
     have hmr := hr ((lo + hi) / 2) (by (first | exact om170 evr h3 hlt | omega))
     have hpm := hp ((lo + hi) / 2) (by (first | exact om170 evr h3 hlt | omega))
     refine item_ints (by assumption) (by k_mem) hrow (by (first | exact om171 hsz hcut evr h1 h3 hlt hmid | omega)) (by (first | exact om172 evr h3 hlt hmid | omega)) (by (first | exact om173 hsz hcut evr h1 h3 hlt hmid | omega)) ?_ (by with_unfolding_all rfl)
     intro t3
     revert t3
     refine pk1 ?_; generalize pick1 _ _ = t3
     rw [show (((lo : Int) + (hi : Int)).fdiv 2).toNat = (lo + hi) / 2 by (first | exact om174 hsz hcut evr h1 h3 hlt hmid | omega)]
     k_steps
     unfold Halt
     
     refine hkey _ _ hmr.1 hmr.2 _ _ _ _ _ _ _ _ _ _ _ _ _ _ _ _ _ _ (by assumption) (by assumption) (by assumption) (by assumption) (fun p hp => by k_mem) (by assumption) rfl (by show dp + 1 + 3 < _; (first | exact om175 hdp | omega)) (by show un + 3 + 24 < _; (first | exact om176 hu | omega)) ?_
     intro q d tk' tx' h' tk'' F2 N2 l1 l2
     revert F2 N2 l1 l2
     revert q d tk' tx' h' tk''
     refine pk6 ?_; generalize pick6 _ _ = zz; generalize zz.1 = q; generalize zz.2.1 = d; generalize zz.2.2.1 = tk'; generalize zz.2.2.2.1 = tx'; generalize zz.2.2.2.2.1 = h'; generalize zz.2.2.2.2.2 = tk''; clear zz
     intro F2 N2 l1 l2
     k_steps
     unfold Halt
     
     refine cmp_ofLt ?_
     k_dflt (refine' cmp_K ?k1 ?k2 ?k3 ?k4 ?k5 ?k6 ?k7 ?k8 ?_; (case k1 => (show un + 3 < _; (first | exact om177 hu | omega))); (case k2 => k_asm); (case k3 => k_asm); (case k4 => k_inst); (case k5 => k_typeOf); (case k6 => k_is); (case k7 => k_is); (case k8 => k_is); k_whole)
     refine qlt_q w mean mg mb xq xd q d x _ t1 t2 tk' tx' _ _ _ _ _ _ _ _ _ _ _ _ _ _ _ _ _ _ (by assumption) (by assumption) (by assumption) (by assumption) (by assumption) rfl (by show dp + 1 + 3 < _; (first | exact om175 hdp | omega)) (by show un + 3 + 24 < _; (first | exact om176 hu | omega)) (by k_mem) (by k_mem) (by k_mem) (by k_mem) ?_
     intro h3 tk3 F3 N3
     revert F3 N3
     revert h3 tk3
     refine pk2 ?_; generalize pick2 _ _ = zz; generalize zz.1 = h3; generalize zz.2 = tk3; clear zz
     intro F3 N3
     rw [hpm]
     (try dsimp only [PySem.W.CmpBack])
     by_cases hc : cut ≤ (lo + hi) / 2
     · rw [decide_eq_true hc]
       k_steps
       unfold Halt
       rename_i zv17 zv16 zv15
       revert zv16 zv15
       revert zv17
       refine pk1 ?_; generalize pick1 _ _ = zv17
       intro _ _
       (rename Fr _ _ _ _ => FZ)
       obtain ⟨tn, htn⟩ := tokOf FZ (x := Str.ofString "hi") rfl hmid
       refine IH (lo, (lo + hi) / 2, tl, tn) _ _ _ _ ⟨?x1, ?x2, ?x3⟩ ?x4 (by assumption) (by assumption) (fun p hp => by k_mem) ?ps ?rest
       case ps => exact List.forall_mem_cons.mpr ⟨rfl, List.forall_mem_cons.mpr ⟨htn, List.forall_mem_nil _⟩⟩
       case x1 => dsimp only; (first | exact om109 h1 | omega)
       case x2 => dsimp only; (first | exact om178 hc | omega)
       case x3 => dsimp only; (first | exact om179 evr (by assumption) hlt | omega)
       case x4 => dsimp only; (first | exact om180 hsz hcut evr h1 (by assumption) hlt | omega)
       case rest =>
         intro z z1 z3
         have z5 := z1 _ (List.mem_cons_self ..)
         have z6 := z1 _ (List.mem_cons_of_mem _ (List.mem_cons_self ..))
         have z4 : z ≠ Str.ofString "mid" := by rintro rfl; revert z3; decide
         simp [z4, z5, z6]
     · rw [decide_eq_false hc]
       k_steps
       unfold Halt
       rename_i zv20 zv19 zv18
       revert zv19 zv18
       revert zv20
       refine pk1 ?_; generalize pick1 _ _ = zv20
       intro _ _
       (rename Fr _ _ _ _ => FZ)
       obtain ⟨tn, htn⟩ := tokOf FZ (x := Str.ofString "lo") rfl hmid2
       refine IH ((lo + hi) / 2 + 1, hi, tn, th) _ _ _ _ ⟨?x1, ?x2, ?x3⟩ ?x4 (by assumption) (by assumption) (fun p hp => by k_mem) ?ps ?rest
       case ps => exact List.forall_mem_cons.mpr ⟨htn, List.forall_mem_cons.mpr ⟨rfl, List.forall_mem_nil _⟩⟩
       case x1 => dsimp only; (first | exact om181 hc | omega)
       case x2 => dsimp only; (first | exact om109 h2 | omega)
       case x3 => dsimp only; (first | exact om109 (by assumption) | omega)
       case x4 => dsimp only; (first | exact om182 hsz hcut evr h1 (by assumption) hlt | omega)
       case rest =>
         intro z z1 z3
         have z5 := z1 _ (List.mem_cons_self ..)
         have z6 := z1 _ (List.mem_cons_of_mem _ (List.mem_cons_self ..))
         have z4 : z ≠ Str.ofString "mid" := by rintro rfl; revert z3; decide
         simp [z4, z5, z6]
   · refine WhlIf.no (by simpa using hlt) ?_
     k_steps
     rw [show lo = cut by (first | exact om183 h1 h2 hlt | omega)]
     exact hret _ _ _ (by assumption) (by assumption)
theorem bisR_s (w : World) (mean : ExcName → Option Value) (mg mb : PySem.Str → Option Value) (lr lam : Addr) (vr : List Value) (row : List Int) (nr : Nat) (x : PySem.Str) (t1 : Tok) (f : Int → PySem.Str) (cut : Nat) (oc : Value) (od : Option Addr) (fd : FuncData) (sl : Array (Option Value))
    (hrow : IntsAre vr row) (hsz : row.length ≤ 7) (hr : ∀ i : Nat, i < row.length → 0 ≤ row.getD i 0 ∧ row.getD i 0 < 7) (hcut : cut ≤ row.length)
    (hp : ∀ i : Nat, i < row.length → decide (x.cps.toList < (f (row.getD i 0)).cps.toList) = decide (cut ≤ i)) :
  ∀ (dp un : Nat) (gd : Option (List Code)) (cn : PySem.Str) (cs : Scope) (a : Addr) (ccd : Value) (cl : List (PySem.Str × Addr)) (outer : List Env) (A₀ : Around) (base h₀ : Heap) (L : Addr) (m : PySem.Str → Option Value) (news : List (Addr × Obj)) (s : Shared)
    (Q E : Value → Shared → Prop),
    Below A₀ base outer h₀ → Fr h₀ L s.heap m → (Mine.hd.heap_39 w.params).In h₀ → News h₀ L s.heap news → Top topProg lzz mean mg mb h₀ → cs.kind = .function → dp + 5 < recursionLimit → un + 40 < cLine →
    (lr, listOf vr.toArray nr) ∈ news → KeyTells w mean mg mb lzz lam news 7 f → (lam, (⟨oc, od, .func fd, sl⟩ : Obj)) ∈ news → 
    (∀ t h' tk', Fr h₀ L h' m → News h₀ L h' news → Q (.int (cut : Nat) t) { s with heap := h', toks := tk' }) →
    wpAny (model Challenge.rw_ux0024_01.row.toRowW.prog w) (ktrTop dp un gd cn cs L a ccd cl outer) (call (.ref 32) [.ref lr, .str x t1] [(Str.ofString "key", .ref lam)]) Q E s := by
  k_fill
  revert hrow hsz hr hcut hp
  revert lzz w mean mg mb lr lam vr row nr x t1 f cut oc od fd sl
  refine @pk12 _ _ _ _ _ _ _ _ _ _ _ _  ⟨default, (aWorld 0), default, default, default, default, default, default, default, default, default, default⟩ _ ?_; generalize pick12 _ _ = zz; generalize zz.1 = lzz; generalize zz.2.1 = w; generalize zz.2.2.1 = mean; generalize zz.2.2.2.1 = mg; generalize zz.2.2.2.2.1 = mb; generalize zz.2.2.2.2.2.1 = lr; generalize zz.2.2.2.2.2.2.1 = lam; generalize zz.2.2.2.2.2.2.2.1 = vr; generalize zz.2.2.2.2.2.2.2.2.1 = row; generalize zz.2.2.2.2.2.2.2.2.2.1 = nr; generalize zz.2.2.2.2.2.2.2.2.2.2.1 = x; generalize zz.2.2.2.2.2.2.2.2.2.2.2 = t1; clear zz
  refine @pk6 _ _ _ _ _ _ inferInstance _ ?_; generalize pick6 _ _ = zz; generalize zz.1 = f; generalize zz.2.1 = cut; generalize zz.2.2.1 = oc; generalize zz.2.2.2.1 = od; generalize zz.2.2.2.2.1 = fd; generalize zz.2.2.2.2.2 = sl; clear zz
  intro hrow hsz hr hcut hp
  intro dp un gd cn cs a ccd cl outer A₀ base h₀ L m news s Q E B F X N T hk hdp hu hm1 hkey hm4 hret
  revert B F X N T hk hdp hu hm1 hkey hm4 hret
  revert dp un gd cn cs a ccd cl outer A₀ base h₀ L m news s Q E
  refine pk12 (o := ⟨default, default, default, default, default, default, default, default, default, callerA, default, default⟩) ?_; generalize pick12 _ _ = zz; generalize zz.1 = dp; generalize zz.2.1 = un; generalize zz.2.2.1 = gd; generalize zz.2.2.2.1 = cn; generalize zz.2.2.2.2.1 = cs; generalize zz.2.2.2.2.2.1 = a; generalize zz.2.2.2.2.2.2.1 = ccd; generalize zz.2.2.2.2.2.2.2.1 = cl; generalize zz.2.2.2.2.2.2.2.2.1 = outer; generalize zz.2.2.2.2.2.2.2.2.2.1 = A₀; generalize zz.2.2.2.2.2.2.2.2.2.2.1 = base; generalize zz.2.2.2.2.2.2.2.2.2.2.2 = h₀; clear zz
  refine pk6 (o := ⟨default, default, default, ({} : Shared), default, default⟩) ?_; generalize pick6 _ _ = zz; generalize zz.1 = L; generalize zz.2.1 = m; generalize zz.2.2.1 = news; generalize zz.2.2.2.1 = s; generalize zz.2.2.2.2.1 = Q; generalize zz.2.2.2.2.2 = E; clear zz
  intro B F X N T hk hdp hu hm1 hkey hm4 hret
  have evr := ints_len hrow
  refine wpAny_call ?_
  k_dflt walk_at "mine:own_enter"
  k_steps
  unfold Halt
  rename_i zv29 zv28 zv27 zv26 zv25 zv24 zv23 zv22 zv21 _
  revert zv26 zv25 zv24 zv23 zv22 zv21
  revert zv29 zv28 zv27 qk ek tk
  try walk_at "mine:z"
  refine pk4 ?_; generalize pick4 _ _ = zz; generalize zz.1 = zv29; generalize zz.2.1 = zv28; generalize zz.2.2.1 = zv27; generalize zz.2.2.2 = tk; clear zz
  intro _ _ _ _ _ _
  try k_fold
  (rename News _ _ _ _ => NA)
  refine len_list ⟨_, (NA _ hm1).1, rfl, _, rfl⟩ (by rw [List.size_toArray]; (first | exact om167 hsz evr | omega)) ?_
  rw [show ((vr.toArray.size : Nat) : Int) = (row.length : Int) by simp [evr]]
  k_steps
  unfold Halt
  rename_i zv32 zv31 zv30
  revert zv31 zv30
  revert zv32 tk
  refine pk2 ?_; generalize pick2 _ _ = zz; generalize zz.1 = zv32; generalize zz.2 = tk; clear zz
  intro _ _
  refine whl_start 1 ?_
  (rename Fr _ _ _ _ => FA)
  (rename News _ _ _ _ => NB)
  refine whl_st (σ := Nat × Nat × Tok × Tok) (fun _ => news) (fun c => [(Str.ofString "lo", .int c.1 c.2.2.1), (Str.ofString "hi", .int c.2.1 c.2.2.2)]) [Str.ofString "mid"] (fun c => c.2.1 - c.1) (fun c => c.1 ≤ cut ∧ cut ≤ c.2.1 ∧ c.2.1 ≤ row.length) (0, row.length, ?tl, ?th) FA NB ?k ⟨Nat.zero_le _, hcut, Nat.le_refl _⟩ ?turn 1
  case k => exact List.forall_mem_cons.mpr ⟨by dsimp only; rfl, List.forall_mem_cons.mpr ⟨by dsimp only; rfl, List.forall_mem_nil _⟩⟩
  case turn =>
   intro c u h tk hJ F1 N1 IH
   revert hJ F1 N1 IH
   revert c u h tk
   refine pk4 ?_; generalize pick4 _ _ = zz; generalize zz.1 = c; generalize zz.2.1 = u; generalize zz.2.2.1 = h; generalize zz.2.2.2 = tk; clear zz
   intro hJ F1 N1 IH
   obtain ⟨lo, hi, tl, th⟩ := c
   obtain ⟨h1, h2, h3⟩ := hJ
   dsimp only [kstB] at h1 h2 h3 F1 N1 IH
   refine whl_turn (by first | passes_own | with_unfolding_all passes_own) ?_
   k_steps
   by_cases hlt : lo < hi
   · refine WhlIf.yes (by simpa using hlt) ?_
     k_steps
     unfold Halt
     rename_i zv35 zv34 zv33
     revert IH h1 h2 h3 hlt zv34 zv33
     revert lo hi tl th zv35
     refine pk5 ?_; generalize pick5 _ _ = zz; generalize zz.1 = lo; generalize zz.2.1 = hi; generalize zz.2.2.1 = tl; generalize zz.2.2.2.1 = th; generalize zz.2.2.2.2 = zv35; clear zz
     intro IH h1 h2 h3 hlt _ _
     have hmid : ((lo : Int) + (hi : Int)).fdiv 2 = (((lo + hi) / 2 : Nat) : Int) := by
       rw [Int.fdiv_eq_ediv_of_nonneg _ (by decide)]
       (first | exact om168 | omega)
     have hmid2 : ((lo : Int) + (hi : Int)).fdiv 2 + 1 = (((lo + hi) / 2 + 1 : Nat) : Int) := by (first | exact om169 hmid | omega)
     have hmr := hr ((lo + hi) / 2) (by (first | exact om170 evr h3 hlt | omega))
     have hpm := hp ((lo + hi) / 2) (by (first | exact om170 evr h3 hlt | omega))
     refine item_ints (by assumption) (by k_mem) hrow (by (first | exact om171 hsz hcut evr h1 h3 hlt hmid | omega)) (by (first | exact om172 evr h3 hlt hmid | omega)) (by (first | exact om173 hsz hcut evr h1 h3 hlt hmid | omega)) ?_ (by with_unfolding_all rfl)
     intro t3
     revert t3
     refine pk1 ?_; generalize pick1 _ _ = t3
     rw [show (((lo : Int) + (hi : Int)).fdiv 2).toNat = (lo + hi) / 2 by (first | exact om174 hsz hcut evr h1 h3 hlt hmid | omega)]
     k_steps
     unfold Halt
     
     refine hkey _ _ hmr.1 hmr.2 _ _ _ _ _ _ _ _ _ _ _ _ _ _ _ _ _ _ (by assumption) (by assumption) (by assumption) (by assumption) (fun p hp => by k_mem) (by assumption) rfl (by show dp + 1 + 3 < _; (first | exact om175 hdp | omega)) (by show un + 3 + 24 < _; (first | exact om176 hu | omega)) ?_
     intro q d tk' tx' h' tk'' F2 N2 l1 l2
     revert F2 N2 l1 l2
     revert q d tk' tx' h' tk''
     refine pk6 ?_; generalize pick6 _ _ = zz; generalize zz.1 = q; generalize zz.2.1 = d; generalize zz.2.2.1 = tk'; generalize zz.2.2.2.1 = tx'; generalize zz.2.2.2.2.1 = h'; generalize zz.2.2.2.2.2 = tk''; clear zz
     intro F2 N2 l1 l2
     k_steps
     unfold Halt
     
     refine sltq w mean mg mb q d _ x tk' tx' t1 _ _ _ _ _ _ _ _ _ _ _ _ _ _ _ _ _ _ (by assumption) (by assumption) (by assumption) (by assumption) (by assumption) rfl (by show dp + 1 + 3 < _; (first | exact om175 hdp | omega)) (by show un + 3 + 24 < _; (first | exact om176 hu | omega)) (by k_mem) (by k_mem) ?_
     intro h3 tk3 F3 N3
     revert F3 N3
     revert h3 tk3
     refine pk2 ?_; generalize pick2 _ _ = zz; generalize zz.1 = h3; generalize zz.2 = tk3; clear zz
     intro F3 N3
     rw [hpm]
     (try dsimp only [PySem.W.CmpBack])
     by_cases hc : cut ≤ (lo + hi) / 2
     · rw [decide_eq_true hc]
       k_steps
       unfold Halt
       rename_i zv38 zv37 zv36
       revert zv37 zv36
       revert zv38
       refine pk1 ?_; generalize pick1 _ _ = zv38
       intro _ _
       (rename Fr _ _ _ _ => FZ)
       obtain ⟨tn, htn⟩ := tokOf FZ (x := Str.ofString "hi") rfl hmid
       refine IH (lo, (lo + hi) / 2, tl, tn) _ _ _ _ ⟨?x1, ?x2, ?x3⟩ ?x4 (by assumption) (by assumption) (fun p hp => by k_mem) ?ps ?rest
       case ps => exact List.forall_mem_cons.mpr ⟨rfl, List.forall_mem_cons.mpr ⟨htn, List.forall_mem_nil _⟩⟩
       case x1 => dsimp only; (first | exact om109 h1 | omega)
       case x2 => dsimp only; (first | exact om178 hc | omega)
       case x3 => dsimp only; (first | exact om179 evr (by assumption) hlt | omega)
       case x4 => dsimp only; (first | exact om180 hsz hcut evr h1 (by assumption) hlt | omega)
       case rest =>
         intro z z1 z3
         have z5 := z1 _ (List.mem_cons_self ..)
         have z6 := z1 _ (List.mem_cons_of_mem _ (List.mem_cons_self ..))
         have z4 : z ≠ Str.ofString "mid" := by rintro rfl; revert z3; decide
         simp [z4, z5, z6]
     · rw [decide_eq_false hc]
       k_steps
       unfold Halt
       rename_i zv41 zv40 zv39
       revert zv40 zv39
       revert zv41
       refine pk1 ?_; generalize pick1 _ _ = zv41
       intro _ _
       (rename Fr _ _ _ _ => FZ)
       obtain ⟨tn, htn⟩ := tokOf FZ (x := Str.ofString "lo") rfl hmid2
       refine IH ((lo + hi) / 2 + 1, hi, tn, th) _ _ _ _ ⟨?x1, ?x2, ?x3⟩ ?x4 (by assumption) (by assumption) (fun p hp => by k_mem) ?ps ?rest
       case ps => exact List.forall_mem_cons.mpr ⟨htn, List.forall_mem_cons.mpr ⟨rfl, List.forall_mem_nil _⟩⟩
       case x1 => dsimp only; (first | exact om181 hc | omega)
       case x2 => dsimp only; (first | exact om109 h2 | omega)
       case x3 => dsimp only; (first | exact om109 (by assumption) | omega)
       case x4 => dsimp only; (first | exact om182 hsz hcut evr h1 (by assumption) hlt | omega)
       case rest =>
         intro z z1 z3
         have z5 := z1 _ (List.mem_cons_self ..)
         have z6 := z1 _ (List.mem_cons_of_mem _ (List.mem_cons_self ..))
         have z4 : z ≠ Str.ofString "mid" := by rintro rfl; revert z3; decide
         simp [z4, z5, z6]
   · refine WhlIf.no (by simpa using hlt) ?_
     k_steps
     rw [show lo = cut by (first | exact om183 h1 h2 hlt | omega)]
     exact hret _ _ _ (by assumption) (by assumption)
theorem bisL_s (w : World) (mean : ExcName → Option Value) (mg mb : PySem.Str → Option Value) (lr lam : Addr) (vr : List Value) (row : List Int) (nr : Nat) (x : PySem.Str) (t1 : Tok) (f : Int → PySem.Str) (cut : Nat) (oc : Value) (od : Option Addr) (fd : FuncData) (sl : Array (Option Value))
    (hrow : IntsAre vr row) (hsz : row.length ≤ 7) (hr : ∀ i : Nat, i < row.length → 0 ≤ row.getD i 0 ∧ row.getD i 0 < 7) (hcut : cut ≤ row.length)
    (hp : ∀ i : Nat, i < row.length → decide ((f (row.getD i 0)).cps.toList < x.cps.toList) = decide (i < cut)) :
  ∀ (dp un : Nat) (gd : Option (List Code)) (cn : PySem.Str) (cs : Scope) (a : Addr) (ccd : Value) (cl : List (PySem.Str × Addr)) (outer : List Env) (A₀ : Around) (base h₀ : Heap) (L : Addr) (m : PySem.Str → Option Value) (news : List (Addr × Obj)) (s : Shared)
    (Q E : Value → Shared → Prop),
    Below A₀ base outer h₀ → Fr h₀ L s.heap m → (Mine.hd.heap_39 w.params).In h₀ → News h₀ L s.heap news → Top topProg lzz mean mg mb h₀ → cs.kind = .function → dp + 5 < recursionLimit → un + 40 < cLine →
    (lr, listOf vr.toArray nr) ∈ news → KeyTells w mean mg mb lzz lam news 7 f → (lam, (⟨oc, od, .func fd, sl⟩ : Obj)) ∈ news → 
    (∀ t h' tk', Fr h₀ L h' m → News h₀ L h' news → Q (.int (cut : Nat) t) { s with heap := h', toks := tk' }) →
    wpAny (model Challenge.rw_ux0024_01.row.toRowW.prog w) (ktrTop dp un gd cn cs L a ccd cl outer) (call (.ref 41) [.ref lr, .str x t1] [(Str.ofString "key", .ref lam)]) Q E s := by
  k_fill
  revert hrow hsz hr hcut hp
  revert lzz w mean mg mb lr lam vr row nr x t1 f cut oc od fd sl
  refine @pk12 _ _ _ _ _ _ _ _ _ _ _ _  ⟨default, (aWorld 0), default, default, default, default, default, default, default, default, default, default⟩ _ ?_; generalize pick12 _ _ = zz; generalize zz.1 = lzz; generalize zz.2.1 = w; generalize zz.2.2.1 = mean; generalize zz.2.2.2.1 = mg; generalize zz.2.2.2.2.1 = mb; generalize zz.2.2.2.2.2.1 = lr; generalize zz.2.2.2.2.2.2.1 = lam; generalize zz.2.2.2.2.2.2.2.1 = vr; generalize zz.2.2.2.2.2.2.2.2.1 = row; generalize zz.2.2.2.2.2.2.2.2.2.1 = nr; generalize zz.2.2.2.2.2.2.2.2.2.2.1 = x; generalize zz.2.2.2.2.2.2.2.2.2.2.2 = t1; clear zz
  refine @pk6 _ _ _ _ _ _ inferInstance _ ?_; generalize pick6 _ _ = zz; generalize zz.1 = f; generalize zz.2.1 = cut; generalize zz.2.2.1 = oc; generalize zz.2.2.2.1 = od; generalize zz.2.2.2.2.1 = fd; generalize zz.2.2.2.2.2 = sl; clear zz
  intro hrow hsz hr hcut hp
  intro dp un gd cn cs a ccd cl outer A₀ base h₀ L m news s Q E B F X N T hk hdp hu hm1 hkey hm4 hret
  revert B F X N T hk hdp hu hm1 hkey hm4 hret
  revert dp un gd cn cs a ccd cl outer A₀ base h₀ L m news s Q E
  refine pk12 (o := ⟨default, default, default, default, default, default, default, default, default, callerA, default, default⟩) ?_; generalize pick12 _ _ = zz; generalize zz.1 = dp; generalize zz.2.1 = un; generalize zz.2.2.1 = gd; generalize zz.2.2.2.1 = cn; generalize zz.2.2.2.2.1 = cs; generalize zz.2.2.2.2.2.1 = a; generalize zz.2.2.2.2.2.2.1 = ccd; generalize zz.2.2.2.2.2.2.2.1 = cl; generalize zz.2.2.2.2.2.2.2.2.1 = outer; generalize zz.2.2.2.2.2.2.2.2.2.1 = A₀; generalize zz.2.2.2.2.2.2.2.2.2.2.1 = base; generalize zz.2.2.2.2.2.2.2.2.2.2.2 = h₀; clear zz
  refine pk6 (o := ⟨default, default, default, ({} : Shared), default, default⟩) ?_; generalize pick6 _ _ = zz; generalize zz.1 = L; generalize zz.2.1 = m; generalize zz.2.2.1 = news; generalize zz.2.2.2.1 = s; generalize zz.2.2.2.2.1 = Q; generalize zz.2.2.2.2.2 = E; clear zz
  intro B F X N T hk hdp hu hm1 hkey hm4 hret
  have evr := ints_len hrow
  refine wpAny_call ?_
  k_dflt walk_at "mine:own_enter"
  k_steps
  unfold Halt
  rename_i zv50 zv49 zv48 zv47 zv46 zv45 zv44 zv43 zv42 _
  revert zv47 zv46 zv45 zv44 zv43 zv42
  revert zv50 zv49 zv48 qk ek tk
  try walk_at "mine:z"
  refine pk4 ?_; generalize pick4 _ _ = zz; generalize zz.1 = zv50; generalize zz.2.1 = zv49; generalize zz.2.2.1 = zv48; generalize zz.2.2.2 = tk; clear zz
  intro _ _ _ _ _ _
  try k_fold
  (rename News _ _ _ _ => NA)
  refine len_list ⟨_, (NA _ hm1).1, rfl, _, rfl⟩ (by rw [List.size_toArray]; (first | exact om167 hsz evr | omega)) ?_
  rw [show ((vr.toArray.size : Nat) : Int) = (row.length : Int) by simp [evr]]
  k_steps
  unfold Halt
  rename_i zv53 zv52 zv51
  revert zv52 zv51
  revert zv53 tk
  refine pk2 ?_; generalize pick2 _ _ = zz; generalize zz.1 = zv53; generalize zz.2 = tk; clear zz
  intro _ _
  refine whl_start 1 ?_
  (rename Fr _ _ _ _ => FA)
  (rename News _ _ _ _ => NB)
  refine whl_st (σ := Nat × Nat × Tok × Tok) (fun _ => news) (fun c => [(Str.ofString "lo", .int c.1 c.2.2.1), (Str.ofString "hi", .int c.2.1 c.2.2.2)]) [Str.ofString "mid"] (fun c => c.2.1 - c.1) (fun c => c.1 ≤ cut ∧ cut ≤ c.2.1 ∧ c.2.1 ≤ row.length) (0, row.length, ?tl, ?th) FA NB ?k ⟨Nat.zero_le _, hcut, Nat.le_refl _⟩ ?turn 1
  case k => exact List.forall_mem_cons.mpr ⟨by dsimp only; rfl, List.forall_mem_cons.mpr ⟨by dsimp only; rfl, List.forall_mem_nil _⟩⟩
  case turn =>
   intro c u h tk hJ F1 N1 IH
   revert hJ F1 N1 IH
   revert c u h tk
   refine pk4 ?_; generalize pick4 _ _ = zz; generalize zz.1 = c; generalize zz.2.1 = u; generalize zz.2.2.1 = h; generalize zz.2.2.2 = tk; clear zz
   intro hJ F1 N1 IH
   obtain ⟨lo, hi, tl, th⟩ := c
   obtain ⟨h1, h2, h3⟩ := hJ
   dsimp only [kstB] at h1 h2 h3 F1 N1 IH
   refine whl_turn (by first | passes_own | with_unfolding_all passes_own) ?_
   k_steps
   by_cases hlt : lo < hi
   · refine WhlIf.yes (by simpa using hlt) ?_
     k_steps
     unfold Halt
     rename_i zv56 zv55 zv54
     revert IH h1 h2 h3 hlt zv55 zv54
     revert lo hi tl th zv56
     refine pk5 ?_; generalize pick5 _ _ = zz; generalize zz.1 = lo; generalize zz.2.1 = hi; generalize zz.2.2.1 = tl; generalize zz.2.2.2.1 = th; generalize zz.2.2.2.2 = zv56; clear zz
     intro IH h1 h2 h3 hlt _ _
     have hmid : ((lo : Int) + (hi : Int)).fdiv 2 = (((lo + hi) / 2 : Nat) : Int) := by
       rw [Int.fdiv_eq_ediv_of_nonneg _ (by decide)]
       (first | exact om168 | omega)
     have hmid2 : ((lo : Int) + (hi : Int)).fdiv 2 + 1 = (((lo + hi) / 2 + 1 : Nat) : Int) := by (first | exact om169 hmid | omega)
     have hmr := hr ((lo + hi) / 2) (by (first | exact om170 evr h3 hlt | omega))
     have hpm := hp ((lo + hi) / 2) (by (first | exact om170 evr h3 hlt | omega))
     refine item_ints (by assumption) (by k_mem) hrow (by (first | exact om171 hsz hcut evr h1 h3 hlt hmid | omega)) (by (first | exact om172 evr h3 hlt hmid | omega)) (by (first | exact om173 hsz hcut evr h1 h3 hlt hmid | omega)) ?_ (by with_unfolding_all rfl)
     intro t3
     revert t3
     refine pk1 ?_; generalize pick1 _ _ = t3
     rw [show (((lo : Int) + (hi : Int)).fdiv 2).toNat = (lo + hi) / 2 by (first | exact om174 hsz hcut evr h1 h3 hlt hmid | omega)]
     k_steps
     unfold Halt
     
     refine hkey _ _ hmr.1 hmr.2 _ _ _ _ _ _ _ _ _ _ _ _ _ _ _ _ _ _ (by assumption) (by assumption) (by assumption) (by assumption) (fun p hp => by k_mem) (by assumption) rfl (by show dp + 1 + 3 < _; (first | exact om175 hdp | omega)) (by show un + 3 + 24 < _; (first | exact om176 hu | omega)) ?_
     intro q d tk' tx' h' tk'' F2 N2 l1 l2
     revert F2 N2 l1 l2
     revert q d tk' tx' h' tk''
     refine pk6 ?_; generalize pick6 _ _ = zz; generalize zz.1 = q; generalize zz.2.1 = d; generalize zz.2.2.1 = tk'; generalize zz.2.2.2.1 = tx'; generalize zz.2.2.2.2.1 = h'; generalize zz.2.2.2.2.2 = tk''; clear zz
     intro F2 N2 l1 l2
     k_steps
     unfold Halt
     
     refine cmp_ofLt ?_
     k_dflt (refine' cmp_K ?k1 ?k2 ?k3 ?k4 ?k5 ?k6 ?k7 ?k8 ?_; (case k1 => (show un + 3 < _; (first | exact om177 hu | omega))); (case k2 => k_asm); (case k3 => k_asm); (case k4 => k_inst); (case k5 => k_typeOf); (case k6 => k_is); (case k7 => k_is); (case k8 => k_is); k_whole)
     refine qlt_s w mean mg mb q d _ x tk' tx' t1 _ _ _ _ _ _ _ _ _ _ _ _ _ _ _ _ _ _ (by assumption) (by assumption) (by assumption) (by assumption) (by assumption) rfl (by show dp + 1 + 3 < _; (first | exact om175 hdp | omega)) (by show un + 3 + 24 < _; (first | exact om176 hu | omega)) (by k_mem) (by k_mem) ?_
     intro h3 tk3 F3 N3
     revert F3 N3
     revert h3 tk3
     refine pk2 ?_; generalize pick2 _ _ = zz; generalize zz.1 = h3; generalize zz.2 = tk3; clear zz
     intro F3 N3
     rw [hpm]
     (try dsimp only [PySem.W.CmpBack])
     by_cases hc : (lo + hi) / 2 < cut
     · rw [decide_eq_true hc]
       k_steps
       unfold Halt
       rename_i zv59 zv58 zv57
       revert zv58 zv57
       revert zv59
       refine pk1 ?_; generalize pick1 _ _ = zv59
       intro _ _
       (rename Fr _ _ _ _ => FZ)
       obtain ⟨tn, htn⟩ := tokOf FZ (x := Str.ofString "lo") rfl hmid2
       refine IH ((lo + hi) / 2 + 1, hi, tn, th) _ _ _ _ ⟨?x1, ?x2, ?x3⟩ ?x4 (by assumption) (by assumption) (fun p hp => by k_mem) ?ps ?rest
       case ps => exact List.forall_mem_cons.mpr ⟨htn, List.forall_mem_cons.mpr ⟨rfl, List.forall_mem_nil _⟩⟩
       case x1 => dsimp only; (first | exact om184 hc | omega)
       case x2 => dsimp only; (first | exact om109 h2 | omega)
       case x3 => dsimp only; (first | exact om109 (by assumption) | omega)
       case x4 => dsimp only; (first | exact om182 hsz hcut evr h1 (by assumption) hlt | omega)
       case rest =>
         intro z z1 z3
         have z5 := z1 _ (List.mem_cons_self ..)
         have z6 := z1 _ (List.mem_cons_of_mem _ (List.mem_cons_self ..))
         have z4 : z ≠ Str.ofString "mid" := by rintro rfl; revert z3; decide
         simp [z4, z5, z6]
     · rw [decide_eq_false hc]
       k_steps
       unfold Halt
       rename_i zv62 zv61 zv60
       revert zv61 zv60
       revert zv62
       refine pk1 ?_; generalize pick1 _ _ = zv62
       intro _ _
       (rename Fr _ _ _ _ => FZ)
       obtain ⟨tn, htn⟩ := tokOf FZ (x := Str.ofString "hi") rfl hmid
       refine IH (lo, (lo + hi) / 2, tl, tn) _ _ _ _ ⟨?x1, ?x2, ?x3⟩ ?x4 (by assumption) (by assumption) (fun p hp => by k_mem) ?ps ?rest
       case ps => exact List.forall_mem_cons.mpr ⟨rfl, List.forall_mem_cons.mpr ⟨htn, List.forall_mem_nil _⟩⟩
       case x1 => dsimp only; (first | exact om109 h1 | omega)
       case x2 => dsimp only; (first | exact om185 hc | omega)
       case x3 => dsimp only; (first | exact om179 evr (by assumption) hlt | omega)
       case x4 => dsimp only; (first | exact om180 hsz hcut evr h1 (by assumption) hlt | omega)
       case rest =>
         intro z z1 z3
         have z5 := z1 _ (List.mem_cons_self ..)
         have z6 := z1 _ (List.mem_cons_of_mem _ (List.mem_cons_self ..))
         have z4 : z ≠ Str.ofString "mid" := by rintro rfl; revert z3; decide
         simp [z4, z5, z6]
   · refine WhlIf.no (by simpa using hlt) ?_
     k_steps
     rw [show lo = cut by (first | exact om183 h1 h2 hlt | omega)]
     exact hret _ _ _ (by assumption) (by assumption)
theorem bisR_i (w : World) (mean : ExcName → Option Value) (mg mb : PySem.Str → Option Value) (lr : Addr) (vr : List Value) (row : List Int) (nr : Nat) (x : Int) (t1 : Tok) (cut : Nat)
    (hrow : IntsAre vr row) (hsz : row.length ≤ 7) (hcut : cut ≤ row.length)
    (hp : ∀ i : Nat, i < row.length → (x < row.getD i 0 ↔ cut ≤ i)) :
  ∀ (dp un : Nat) (gd : Option (List Code)) (cn : PySem.Str) (cs : Scope) (a : Addr) (ccd : Value) (cl : List (PySem.Str × Addr)) (outer : List Env) (A₀ : Around) (base h₀ : Heap) (L : Addr) (m : PySem.Str → Option Value) (news : List (Addr × Obj)) (s : Shared)
    (Q E : Value → Shared → Prop),
    Below A₀ base outer h₀ → Fr h₀ L s.heap m → (Mine.hd.heap_39 w.params).In h₀ → News h₀ L s.heap news → Top topProg lzz mean mg mb h₀ → cs.kind = .function → dp + 5 < recursionLimit → un + 40 < cLine →
    (lr, listOf vr.toArray nr) ∈ news → 
    (∀ t h' tk', Fr h₀ L h' m → News h₀ L h' news → Q (.int (cut : Nat) t) { s with heap := h', toks := tk' }) →
    wpAny (model Challenge.rw_ux0024_01.row.toRowW.prog w) (ktrTop dp un gd cn cs L a ccd cl outer) (call (.ref 32) [.ref lr, .int x t1]) Q E s := by
  k_fill
  revert hrow hsz hcut hp
  revert lzz w mean mg mb lr vr row nr x t1 cut
  refine @pk12 _ _ _ _ _ _ _ _ _ _ _ _  ⟨default, (aWorld 0), default, default, default, default, default, default, default, default, default, default⟩ _ ?_; generalize pick12 _ _ = zz; generalize zz.1 = lzz; generalize zz.2.1 = w; generalize zz.2.2.1 = mean; generalize zz.2.2.2.1 = mg; generalize zz.2.2.2.2.1 = mb; generalize zz.2.2.2.2.2.1 = lr; generalize zz.2.2.2.2.2.2.1 = vr; generalize zz.2.2.2.2.2.2.2.1 = row; generalize zz.2.2.2.2.2.2.2.2.1 = nr; generalize zz.2.2.2.2.2.2.2.2.2.1 = x; generalize zz.2.2.2.2.2.2.2.2.2.2.1 = t1; generalize zz.2.2.2.2.2.2.2.2.2.2.2 = cut; clear zz
  intro hrow hsz hcut hp
  intro dp un gd cn cs a ccd cl outer A₀ base h₀ L m news s Q E B F X N T hk hdp hu hm1 hret
  revert B F X N T hk hdp hu hm1 hret
  revert dp un gd cn cs a ccd cl outer A₀ base h₀ L m news s Q E
  refine pk12 (o := ⟨default, default, default, default, default, default, default, default, default, callerA, default, default⟩) ?_; generalize pick12 _ _ = zz; generalize zz.1 = dp; generalize zz.2.1 = un; generalize zz.2.2.1 = gd; generalize zz.2.2.2.1 = cn; generalize zz.2.2.2.2.1 = cs; generalize zz.2.2.2.2.2.1 = a; generalize zz.2.2.2.2.2.2.1 = ccd; generalize zz.2.2.2.2.2.2.2.1 = cl; generalize zz.2.2.2.2.2.2.2.2.1 = outer; generalize zz.2.2.2.2.2.2.2.2.2.1 = A₀; generalize zz.2.2.2.2.2.2.2.2.2.2.1 = base; generalize zz.2.2.2.2.2.2.2.2.2.2.2 = h₀; clear zz
  refine pk6 (o := ⟨default, default, default, ({} : Shared), default, default⟩) ?_; generalize pick6 _ _ = zz; generalize zz.1 = L; generalize zz.2.1 = m; generalize zz.2.2.1 = news; generalize zz.2.2.2.1 = s; generalize zz.2.2.2.2.1 = Q; generalize zz.2.2.2.2.2 = E; clear zz
  intro B F X N T hk hdp hu hm1 hret
  have evr := ints_len hrow
  refine wpAny_call ?_
  k_dflt walk_at "mine:own_enter"
  k_steps
  unfold Halt
  rename_i zv71 zv70 zv69 zv68 zv67 zv66 zv65 zv64 zv63 _
  revert zv68 zv67 zv66 zv65 zv64 zv63
  revert zv71 zv70 zv69 qk ek tk
  try walk_at "mine:z"
  refine pk4 ?_; generalize pick4 _ _ = zz; generalize zz.1 = zv71; generalize zz.2.1 = zv70; generalize zz.2.2.1 = zv69; generalize zz.2.2.2 = tk; clear zz
  intro _ _ _ _ _ _
  try k_fold
  (rename News _ _ _ _ => NA)
  refine len_list ⟨_, (NA _ hm1).1, rfl, _, rfl⟩ (by rw [List.size_toArray]; (first | exact om167 hsz evr | omega)) ?_
  rw [show ((vr.toArray.size : Nat) : Int) = (row.length : Int) by simp [evr]]
  k_steps
  unfold Halt
  rename_i zv74 zv73 zv72
  revert zv73 zv72
  revert zv74 tk
  refine pk2 ?_; generalize pick2 _ _ = zz; generalize zz.1 = zv74; generalize zz.2 = tk; clear zz
  intro _ _
  refine whl_start 1 ?_
  (rename Fr _ _ _ _ => FA)
  (rename News _ _ _ _ => NB)
  refine whl_st (σ := Nat × Nat × Tok × Tok) (fun _ => news) (fun c => [(Str.ofString "lo", .int c.1 c.2.2.1), (Str.ofString "hi", .int c.2.1 c.2.2.2)]) [Str.ofString "mid"] (fun c => c.2.1 - c.1) (fun c => c.1 ≤ cut ∧ cut ≤ c.2.1 ∧ c.2.1 ≤ row.length) (0, row.length, ?tl, ?th) FA NB ?k ⟨Nat.zero_le _, hcut, Nat.le_refl _⟩ ?turn 1
  case k => exact List.forall_mem_cons.mpr ⟨by dsimp only; rfl, List.forall_mem_cons.mpr ⟨by dsimp only; rfl, List.forall_mem_nil _⟩⟩
  case turn =>
   intro c u h tk hJ F1 N1 IH
   revert hJ F1 N1 IH
   revert c u h tk
   refine pk4 ?_; generalize pick4 _ _ = zz; generalize zz.1 = c; generalize zz.2.1 = u; generalize zz.2.2.1 = h; generalize zz.2.2.2 = tk; clear zz
   intro hJ F1 N1 IH
   obtain ⟨lo, hi, tl, th⟩ := c
   obtain ⟨h1, h2, h3⟩ := hJ
   dsimp only [kstB] at h1 h2 h3 F1 N1 IH
   refine whl_turn (by first | passes_own | with_unfolding_all passes_own) ?_
   k_steps
   by_cases hlt : lo < hi
   · refine WhlIf.yes (by simpa using hlt) ?_
     k_steps
     unfold Halt
     rename_i zv77 zv76 zv75
     revert IH h1 h2 h3 hlt zv76 zv75
     revert lo hi tl th zv77
     refine pk5 ?_; generalize pick5 _ _ = zz; generalize zz.1 = lo; generalize zz.2.1 = hi; generalize zz.2.2.1 = tl; generalize zz.2.2.2.1 = th; generalize zz.2.2.2.2 = zv77; clear zz
     intro IH h1 h2 h3 hlt _ _
     have hmid : ((lo : Int) + (hi : Int)).fdiv 2 = (((lo + hi) / 2 : Nat) : Int) := by
       rw [Int.fdiv_eq_ediv_of_nonneg _ (by decide)]
       (first | exact om168 | omega)
     have hmid2 : ((lo : Int) + (hi : Int)).fdiv 2 + 1 = (((lo + hi) / 2 + 1 : Nat) : Int) := by (first | exact om169 hmid | omega)
     have hpm := hp ((lo + hi) / 2) (by (first | exact om170 evr h3 hlt | omega))
     refine item_ints (by assumption) (by k_mem) hrow (by (first | exact om171 hsz hcut evr h1 h3 hlt hmid | omega)) (by (first | exact om172 evr h3 hlt hmid | omega)) (by (first | exact om173 hsz hcut evr h1 h3 hlt hmid | omega)) ?_ (by with_unfolding_all rfl)
     intro t3
     revert t3
     refine pk1 ?_; generalize pick1 _ _ = t3
     rw [show (((lo : Int) + (hi : Int)).fdiv 2).toNat = (lo + hi) / 2 by (first | exact om174 hsz hcut evr h1 h3 hlt hmid | omega)]
     k_steps
     · have hc := hpm.mp (by assumption)
       unfold Halt
       rename_i zv80 zv79 zv78
       revert zv79 zv78
       revert tk zv80
       refine pk2 ?_; generalize pick2 _ _ = zz; generalize zz.1 = tk; generalize zz.2 = zv80; clear zz
       intro _ _
       (rename Fr _ _ _ _ => FZ)
       obtain ⟨tn, htn⟩ := tokOf FZ (x := Str.ofString "hi") rfl hmid
       refine IH (lo, (lo + hi) / 2, tl, tn) _ _ _ _ ⟨?x1, ?x2, ?x3⟩ ?x4 (by assumption) (by assumption) (fun p hp => by k_mem) ?ps ?rest
       case ps => exact List.forall_mem_cons.mpr ⟨rfl, List.forall_mem_cons.mpr ⟨htn, List.forall_mem_nil _⟩⟩
       case x1 => dsimp only; (first | exact om109 h1 | omega)
       case x2 => dsimp only; (first | exact om178 hc | omega)
       case x3 => dsimp only; (first | exact om179 evr h3 hlt | omega)
       case x4 => dsimp only; (first | exact om180 hsz hcut evr h1 h3 hlt | omega)
       case rest =>
         intro z z1 z3
         have z5 := z1 _ (List.mem_cons_self ..)
         have z6 := z1 _ (List.mem_cons_of_mem _ (List.mem_cons_self ..))
         have z4 : z ≠ Str.ofString "mid" := by rintro rfl; revert z3; decide
         simp [z4, z5, z6]
     · have hc := (not_congr hpm).mp (by (first | exact om186 (by assumption) | omega))
       unfold Halt
       rename_i zv83 zv82 zv81
       revert zv82 zv81
       revert tk zv83
       refine pk2 ?_; generalize pick2 _ _ = zz; generalize zz.1 = tk; generalize zz.2 = zv83; clear zz
       intro _ _
       (rename Fr _ _ _ _ => FZ)
       obtain ⟨tn, htn⟩ := tokOf FZ (x := Str.ofString "lo") rfl hmid2
       refine IH ((lo + hi) / 2 + 1, hi, tn, th) _ _ _ _ ⟨?x1, ?x2, ?x3⟩ ?x4 (by assumption) (by assumption) (fun p hp => by k_mem) ?ps ?rest
       case ps => exact List.forall_mem_cons.mpr ⟨htn, List.forall_mem_cons.mpr ⟨rfl, List.forall_mem_nil _⟩⟩
       case x1 => dsimp only; (first | exact om181 hc | omega)
       case x2 => dsimp only; (first | exact om109 h2 | omega)
       case x3 => dsimp only; (first | exact om109 h3 | omega)
       case x4 => dsimp only; (first | exact om182 hsz hcut evr h1 h3 hlt | omega)
       case rest =>
         intro z z1 z3
         have z5 := z1 _ (List.mem_cons_self ..)
         have z6 := z1 _ (List.mem_cons_of_mem _ (List.mem_cons_self ..))
         have z4 : z ≠ Str.ofString "mid" := by rintro rfl; revert z3; decide
         simp [z4, z5, z6]
   · refine WhlIf.no (by simpa using hlt) ?_
     k_steps
     rw [show lo = cut by (first | exact om183 h1 h2 hlt | omega)]
     exact hret _ _ _ (by assumption) (by assumption)
theorem bisL_i (w : World) (mean : ExcName → Option Value) (mg mb : PySem.Str → Option Value) (lr : Addr) (vr : List Value) (row : List Int) (nr : Nat) (x : Int) (t1 : Tok) (cut : Nat)
    (hrow : IntsAre vr row) (hsz : row.length ≤ 7) (hcut : cut ≤ row.length)
    (hp : ∀ i : Nat, i < row.length → (row.getD i 0 < x ↔ i < cut)) :
  ∀ (dp un : Nat) (gd : Option (List Code)) (cn : PySem.Str) (cs : Scope) (a : Addr) (ccd : Value) (cl : List (PySem.Str × Addr)) (outer : List Env) (A₀ : Around) (base h₀ : Heap) (L : Addr) (m : PySem.Str → Option Value) (news : List (Addr × Obj)) (s : Shared)
    (Q E : Value → Shared → Prop),
    Below A₀ base outer h₀ → Fr h₀ L s.heap m → (Mine.hd.heap_39 w.params).In h₀ → News h₀ L s.heap news → Top topProg lzz mean mg mb h₀ → cs.kind = .function → dp + 5 < recursionLimit → un + 40 < cLine →
    (lr, listOf vr.toArray nr) ∈ news → 
    (∀ t h' tk', Fr h₀ L h' m → News h₀ L h' news → Q (.int (cut : Nat) t) { s with heap := h', toks := tk' }) →
    wpAny (model Challenge.rw_ux0024_01.row.toRowW.prog w) (ktrTop dp un gd cn cs L a ccd cl outer) (call (.ref 41) [.ref lr, .int x t1]) Q E s := by
  k_fill
  revert hrow hsz hcut hp
  revert lzz w mean mg mb lr vr row nr x t1 cut
  refine @pk12 _ _ _ _ _ _ _ _ _ _ _ _  ⟨default, (aWorld 0), default, default, default, default, default, default, default, default, default, default⟩ _ ?_; generalize pick12 _ _ = zz; generalize zz.1 = lzz; generalize zz.2.1 = w; generalize zz.2.2.1 = mean; generalize zz.2.2.2.1 = mg; generalize zz.2.2.2.2.1 = mb; generalize zz.2.2.2.2.2.1 = lr; generalize zz.2.2.2.2.2.2.1 = vr; generalize zz.2.2.2.2.2.2.2.1 = row; generalize zz.2.2.2.2.2.2.2.2.1 = nr; generalize zz.2.2.2.2.2.2.2.2.2.1 = x; generalize zz.2.2.2.2.2.2.2.2.2.2.1 = t1; generalize zz.2.2.2.2.2.2.2.2.2.2.2 = cut; clear zz
  intro hrow hsz hcut hp
  intro dp un gd cn cs a ccd cl outer A₀ base h₀ L m news s Q E B F X N T hk hdp hu hm1 hret
  revert B F X N T hk hdp hu hm1 hret
  revert dp un gd cn cs a ccd cl outer A₀ base h₀ L m news s Q E
  refine pk12 (o := ⟨default, default, default, default, default, default, default, default, default, callerA, default, default⟩) ?_; generalize pick12 _ _ = zz; generalize zz.1 = dp; generalize zz.2.1 = un; generalize zz.2.2.1 = gd; generalize zz.2.2.2.1 = cn; generalize zz.2.2.2.2.1 = cs; generalize zz.2.2.2.2.2.1 = a; generalize zz.2.2.2.2.2.2.1 = ccd; generalize zz.2.2.2.2.2.2.2.1 = cl; generalize zz.2.2.2.2.2.2.2.2.1 = outer; generalize zz.2.2.2.2.2.2.2.2.2.1 = A₀; generalize zz.2.2.2.2.2.2.2.2.2.2.1 = base; generalize zz.2.2.2.2.2.2.2.2.2.2.2 = h₀; clear zz
  refine pk6 (o := ⟨default, default, default, ({} : Shared), default, default⟩) ?_; generalize pick6 _ _ = zz; generalize zz.1 = L; generalize zz.2.1 = m; generalize zz.2.2.1 = news; generalize zz.2.2.2.1 = s; generalize zz.2.2.2.2.1 = Q; generalize zz.2.2.2.2.2 = E; clear zz
  intro B F X N T hk hdp hu hm1 hret
  have evr := ints_len hrow
  refine wpAny_call ?_
  k_dflt walk_at "mine:own_enter"
  k_steps
  unfold Halt
  rename_i zv92 zv91 zv90 zv89 zv88 zv87 zv86 zv85 zv84 _
  revert zv89 zv88 zv87 zv86 zv85 zv84
  revert zv92 zv91 zv90 qk ek tk
  try walk_at "mine:z"
  refine pk4 ?_; generalize pick4 _ _ = zz; generalize zz.1 = zv92; generalize zz.2.1 = zv91; generalize zz.2.2.1 = zv90; generalize zz.2.2.2 = tk; clear zz
  intro _ _ _ _ _ _
  try k_fold
  (rename News _ _ _ _ => NA)
  refine len_list ⟨_, (NA _ hm1).1, rfl, _, rfl⟩ (by rw [List.size_toArray]; (first | exact om167 hsz evr | omega)) ?_
  rw [show ((vr.toArray.size : Nat) : Int) = (row.length : Int) by simp [evr]]
  k_steps
  unfold Halt
  rename_i zv95 zv94 zv93
  revert zv94 zv93
  revert zv95 tk
  refine pk2 ?_; generalize pick2 _ _ = zz; generalize zz.1 = zv95; generalize zz.2 = tk; clear zz
  intro _ _
  refine whl_start 1 ?_
  (rename Fr _ _ _ _ => FA)
  (rename News _ _ _ _ => NB)
  refine whl_st (σ := Nat × Nat × Tok × Tok) (fun _ => news) (fun c => [(Str.ofString "lo", .int c.1 c.2.2.1), (Str.ofString "hi", .int c.2.1 c.2.2.2)]) [Str.ofString "mid"] (fun c => c.2.1 - c.1) (fun c => c.1 ≤ cut ∧ cut ≤ c.2.1 ∧ c.2.1 ≤ row.length) (0, row.length, ?tl, ?th) FA NB ?k ⟨Nat.zero_le _, hcut, Nat.le_refl _⟩ ?turn 1
  case k => exact List.forall_mem_cons.mpr ⟨by dsimp only; rfl, List.forall_mem_cons.mpr ⟨by dsimp only; rfl, List.forall_mem_nil _⟩⟩
  case turn =>
   intro c u h tk hJ F1 N1 IH
   revert hJ F1 N1 IH
   revert c u h tk
   refine pk4 ?_; generalize pick4 _ _ = zz; generalize zz.1 = c; generalize zz.2.1 = u; generalize zz.2.2.1 = h; generalize zz.2.2.2 = tk; clear zz
   intro hJ F1 N1 IH
   obtain ⟨lo, hi, tl, th⟩ := c
   obtain ⟨h1, h2, h3⟩ := hJ
   dsimp only [kstB] at h1 h2 h3 F1 N1 IH
   refine whl_turn (by first | passes_own | with_unfolding_all passes_own) ?_
   k_steps
   by_cases hlt : lo < hi
   · refine WhlIf.yes (by simpa using hlt) ?_
     k_steps
     unfold Halt
     rename_i zv98 zv97 zv96
     revert IH h1 h2 h3 hlt zv97 zv96
     revert lo hi tl th zv98
     refine pk5 ?_; generalize pick5 _ _ = zz; generalize zz.1 = lo; generalize zz.2.1 = hi; generalize zz.2.2.1 = tl; generalize zz.2.2.2.1 = th; generalize zz.2.2.2.2 = zv98; clear zz
     intro IH h1 h2 h3 hlt _ _
     have hmid : ((lo : Int) + (hi : Int)).fdiv 2 = (((lo + hi) / 2 : Nat) : Int) := by
       rw [Int.fdiv_eq_ediv_of_nonneg _ (by decide)]
       (first | exact om168 | omega)
     have hmid2 : ((lo : Int) + (hi : Int)).fdiv 2 + 1 = (((lo + hi) / 2 + 1 : Nat) : Int) := by (first | exact om169 hmid | omega)
     have hpm := hp ((lo + hi) / 2) (by (first | exact om170 evr h3 hlt | omega))
     refine item_ints (by assumption) (by k_mem) hrow (by (first | exact om171 hsz hcut evr h1 h3 hlt hmid | omega)) (by (first | exact om172 evr h3 hlt hmid | omega)) (by (first | exact om173 hsz hcut evr h1 h3 hlt hmid | omega)) ?_ (by with_unfolding_all rfl)
     intro t3
     revert t3
     refine pk1 ?_; generalize pick1 _ _ = t3
     rw [show (((lo : Int) + (hi : Int)).fdiv 2).toNat = (lo + hi) / 2 by (first | exact om174 hsz hcut evr h1 h3 hlt hmid | omega)]
     k_steps
     · have hc := hpm.mp (by assumption)
       unfold Halt
       rename_i zv101 zv100 zv99
       revert zv100 zv99
       revert tk zv101
       refine pk2 ?_; generalize pick2 _ _ = zz; generalize zz.1 = tk; generalize zz.2 = zv101; clear zz
       intro _ _
       (rename Fr _ _ _ _ => FZ)
       obtain ⟨tn, htn⟩ := tokOf FZ (x := Str.ofString "lo") rfl hmid2
       refine IH ((lo + hi) / 2 + 1, hi, tn, th) _ _ _ _ ⟨?x1, ?x2, ?x3⟩ ?x4 (by assumption) (by assumption) (fun p hp => by k_mem) ?ps ?rest
       case ps => exact List.forall_mem_cons.mpr ⟨htn, List.forall_mem_cons.mpr ⟨rfl, List.forall_mem_nil _⟩⟩
       case x1 => dsimp only; (first | exact om184 hc | omega)
       case x2 => dsimp only; (first | exact om109 h2 | omega)
       case x3 => dsimp only; (first | exact om109 h3 | omega)
       case x4 => dsimp only; (first | exact om182 hsz hcut evr h1 h3 hlt | omega)
       case rest =>
         intro z z1 z3
         have z5 := z1 _ (List.mem_cons_self ..)
         have z6 := z1 _ (List.mem_cons_of_mem _ (List.mem_cons_self ..))
         have z4 : z ≠ Str.ofString "mid" := by rintro rfl; revert z3; decide
         simp [z4, z5, z6]
     · have hc := (not_congr hpm).mp (by (first | exact om186 (by assumption) | omega))
       unfold Halt
       rename_i zv104 zv103 zv102
       revert zv103 zv102
       revert tk zv104
       refine pk2 ?_; generalize pick2 _ _ = zz; generalize zz.1 = tk; generalize zz.2 = zv104; clear zz
       intro _ _
       (rename Fr _ _ _ _ => FZ)
       obtain ⟨tn, htn⟩ := tokOf FZ (x := Str.ofString "hi") rfl hmid
       refine IH (lo, (lo + hi) / 2, tl, tn) _ _ _ _ ⟨?x1, ?x2, ?x3⟩ ?x4 (by assumption) (by assumption) (fun p hp => by k_mem) ?ps ?rest
       case ps => exact List.forall_mem_cons.mpr ⟨rfl, List.forall_mem_cons.mpr ⟨htn, List.forall_mem_nil _⟩⟩
       case x1 => dsimp only; (first | exact om109 h1 | omega)
       case x2 => dsimp only; (first | exact om185 hc | omega)
       case x3 => dsimp only; (first | exact om179 evr h3 hlt | omega)
       case x4 => dsimp only; (first | exact om180 hsz hcut evr h1 h3 hlt | omega)
       case rest =>
         intro z z1 z3
         have z5 := z1 _ (List.mem_cons_self ..)
         have z6 := z1 _ (List.mem_cons_of_mem _ (List.mem_cons_self ..))
         have z4 : z ≠ Str.ofString "mid" := by rintro rfl; revert z3; decide
         simp [z4, z5, z6]
   · refine WhlIf.no (by simpa using hlt) ?_
     k_steps
     rw [show lo = cut by (first | exact om183 h1 h2 hlt | omega)]
     exact hret _ _ _ (by assumption) (by assumption)
end Mine
end

section
open PySem PySem.W PyProof.Rows PySem.Calls PySem.Spec
namespace Mine
section
variable {prog : Program} {w : World} {A : Around} {E : Value → Shared → Prop} {s : Shared} {env : Env} {h₀ : Heap} {x : PySem.Str} {body : List Stmt} {Q : Flow → Shared → Prop} {σ : Type}
/-- a loop over a list that stands still, by a state -/
theorem lst_st {ax : Addr} {lo : Obj} {vs : List Value} {n : Nat} {m₀ : PySem.Str → Option Value} (Led : σ → List (Addr × Obj)) (ps : σ → List (PySem.Str × Value)) (stored : List PySem.Str) (P : Nat → σ → Prop) (c₀ : σ)
    (hh : A.handled = none) (hc : lo.cls = .type "list") (hd : lo.data = .seq vs.toArray n) (hm : ∀ c, (ax, lo) ∈ Led c) (F : Fr h₀ env.locals s.heap m₀) (N : News h₀ env.locals s.heap (Led c₀))
    (hk : ∀ p ∈ ps c₀, m₀ p.1 = some p.2) (hp : P 0 c₀)
    (turn : ∀ (I : Addr) (it : Obj) (i : Nat) (c : σ) (v : Value) (u : PySem.Str → Option Value) h tk, vs[i]? = some v → it.cls = .type "list_iterator" → P i c → (∀ p ∈ Led c, p.1 ≠ I) →
      Fr h₀ env.locals h (fun y => if y = x then some v else kstB (fun z => if stored.contains z then u z else m₀ z) (ps c) y) → News h₀ env.locals h ((I, it) :: Led c) →
      wpAny (model prog w) A (execs body env) (UnrPost h₀ env.locals { s with heap := h, toks := tk } I it (Kept Led ps x stored m₀ (P (i + 1))) Q) E { s with heap := h, toks := tk })
    (done : ∀ (c : σ) (u : PySem.Str → Option Value) h tk, P vs.length c → Fr h₀ env.locals h (fun y => if y = x then u y else kstB (fun z => if stored.contains z then u z else m₀ z) (ps c) y) → News h₀ env.locals h (Led c) → Q .next { s with heap := h, toks := tk }) :
    wpAny (model prog w) A (pyIter (.ref ax)) (fun it s₂ => LoopAtV prog w A h₀ env x body Q E it s₂) E s := by
  refine iter_listUnr hh F N (hm c₀) hc hd fun I hI => ?_
  have all : ∀ (r : List Value) (i : Nat) m nx, vs.drop i = r → i ≤ vs.length → Kept Led ps x stored m₀ (P i) m nx → (∀ p ∈ nx, p.1 ≠ I) → ListRest prog w A E h₀ env x body Q s I (ax, lo) r m nx := by
    intro r
    induction r with
    | nil =>
      rintro i m nx hr hi ⟨c, rfl, hp', h1, h2⟩ off
      have hl : i = vs.length := by
        have := congrArg List.length hr
        simp at this
        (first | exact om243 hi this | omega)
      subst hl
      exact fun h tk F' N' => done c m h tk hp' (kst_frOut h1 h2 F') N'
    | cons v r ih =>
      rintro i m nx hr hi ⟨c, rfl, hp', h1, h2⟩ off
      have hv : vs[i]? = some v := by
        have := congrArg List.head? hr
        simpa using this
      have hr' : vs.drop (i + 1) = r := by rw [← List.drop_drop, hr]; rfl
      have hi' : i + 1 ≤ vs.length := by
        rcases Nat.lt_or_ge i vs.length with h | h
        · exact h
        · rw [List.getElem?_eq_none h] at hv; cases hv
      refine ListRest.succ fun it h tk hit F' N' => ?_
      refine wpAny_mono (turn I it i c v m h tk hv hit hp' off (kst_fr h1 h2 F') N') (fun f s₂ p => ?_) fun _ _ e => e
      refine UnrPost.mono (fun m' nx' off' hJ => ?_) f s₂ p
      refine ⟨?_, ih (i + 1) m' nx' hr' hi' hJ off'⟩
      obtain ⟨c', rfl, _⟩ := hJ
      exact hm c'
  exact all vs 0 m₀ (Led c₀) (by simp) (Nat.zero_le _) ⟨c₀, rfl, hp, hk, fun _ _ _ _ => rfl⟩ fun p hp => Nat.ne_of_lt (hI p hp)
end
theorem headIs4 {h₀ : Heap} {L : Addr} {h : Heap} {p : Addr} {o : Obj} {q q' q'' : Addr × Obj} {r : List (Addr × Obj)} (_ : News h₀ L h (q :: q' :: q'' :: (p, o) :: r)) : ∃ l, l = p := ⟨_, rfl⟩
theorem lt_of_all {d : Addr} : ∀ {l : List (Addr × Obj)}, AllLt d l → ∀ p ∈ l, @LT.lt Nat _ p.1 d
  | [], _, _, hp => absurd hp List.not_mem_nil
  | q :: r, h, p, hp => by
    rcases List.mem_cons.mp hp with rfl | hp
    · exact h.1
    · exact lt_of_all h.2 p hp
theorem KeyTells.mono {w : World} {mean : ExcName → Option Value} {mg mb : PySem.Str → Option Value} {lam : Addr} {news news' : List (Addr × Obj)} {n : Nat} {f : Int → PySem.Str} (K : KeyTells w mean mg mb lzz lam news n f) (h : ∀ p ∈ news, p ∈ news') : KeyTells w mean mg mb lzz lam news' n f :=
  fun i ti h0 h1 dp un gd cn cs a ccd cl outer A₀ base h₀ L m more s Q E B F X N hs => K i ti h0 h1 dp un gd cn cs a ccd cl outer A₀ base h₀ L m more s Q E B F X N fun p hp => hs p (h p hp)
local macro_rules | `(tactic| k_mem) => `(tactic| first | assumption | (refine List.mem_cons_of_mem _ ?_; first | assumption | k_mem))
local macro_rules | `(tactic| walk_at "call ref") => `(tactic| (refine Halt.mk ?_))
local macro_rules | `(tactic| walk_at "callWith ref") => `(tactic| (k_here; k_dflt (first
  | (refine' callWith_F ?k1 ?_; (case k1 => exact FnAt.of (by k_asm) (by k_mem)); k_whole)
  | (refine' callWith_F0 ?k1 ?_; (case k1 => exact FnAt.of (by k_asm) (by k_mem)); k_whole; try dsimp only [List.nil_append, List.cons_append]))))
local macro_rules | `(tactic| walk_at "call builtin:list.insert") => `(tactic| (refine Halt.mk ?_))
theorem insort_tells (w : World) (mean : ExcName → Option Value) (mg mb : PySem.Str → Option Value) (lr lam : Addr) (vr : List Value) (row : List Int) (nr : Nat) (node : Int) (t1 : Tok) (f : Int → PySem.Str) (cut : Nat) (oc : Value) (od : Option Addr) (fd : FuncData) (sl : Array (Option Value))
    (hrow : IntsAre vr row) (hsz : row.length ≤ 7) (hr : ∀ i : Nat, i < row.length → 0 ≤ row.getD i 0 ∧ row.getD i 0 < 7) (hn : 0 ≤ node ∧ node < 7) (hcut : cut ≤ row.length)
    (hp : ∀ i : Nat, i < row.length → decide ((f node).cps.toList < (f (row.getD i 0)).cps.toList) = decide (cut ≤ i)) :
  ∀ (dp un : Nat) (gd : Option (List Code)) (cn : PySem.Str) (cs : Scope) (a : Addr) (ccd : Value) (cl : List (PySem.Str × Addr)) (outer : List Env) (A₀ : Around) (base h₀ : Heap) (L : Addr) (m : PySem.Str → Option Value) (news : List (Addr × Obj)) (s : Shared)
    (Q E : Value → Shared → Prop),
    Below A₀ base outer h₀ → Fr h₀ L s.heap m → (Mine.hd.heap_39 w.params).In h₀ → News h₀ L s.heap ((lr, listOf vr.toArray nr) :: news) → Top topProg lzz mean mg mb h₀ → cs.kind = .function → dp + 6 < recursionLimit → un + 48 < cLine →
    (∀ p ∈ news, p.1 ≠ lr) → KeyTells w mean mg mb lzz lam news 7 f → (lam, (⟨oc, od, .func fd, sl⟩ : Obj)) ∈ news →
    (∀ h' tk', Fr h₀ L h' m → News h₀ L h' ((lr, listOf (vr.take cut ++ .int node t1 :: vr.drop cut).toArray (nr + 1)) :: news) → Q .none { s with heap := h', toks := tk' }) →
    wpAny (model Challenge.rw_ux0024_01.row.toRowW.prog w) (ktrTop dp un gd cn cs L a ccd cl outer) (call (.ref 23) [.ref lr, .int node t1] [(Str.ofString "key", .ref lam)]) Q E s := by
  k_fill
  intro dp un gd cn cs a ccd cl outer A₀ base h₀ L m news s Q E B F X N T hk hdp hu hne hkey hm4 hret
  have evr := ints_len hrow
  refine wpAny_call ?_
  k_dflt walk_at "mine:own_enter"
  k_steps
  unfold Halt
  refine hkey _ _ hn.1 hn.2 _ _ _ _ _ _ _ _ _ _ _ _ _ _ _ _ _ _ (by assumption) (by assumption) (by assumption) (by assumption) (fun p hp => by k_mem) (by assumption) rfl (by show dp + 1 + 3 < _; (first | exact om266 hdp | omega)) (by show un + 3 + 24 < _; (first | exact om267 hu | omega)) ?_
  intro q d tk' tx' h' tk'' F2 N2 l1 l2
  k_steps
  unfold Halt
  refine bisR_q w mean mg mb lr lam q d vr row nr (f node) tk' tx' _ f cut oc od fd sl hrow hsz hr hcut hp _ _ _ _ _ _ _ _ _ _ _ _ _ _ _ _ _ _ (by assumption) (by assumption) (by assumption) (by assumption) (by assumption) rfl (by show dp + 1 + 5 < _; (first | exact om268 hdp | omega)) (by show un + 3 + 40 < _; (first | exact om269 hu | omega)) (by k_mem) (hkey.mono fun p hp => by k_mem) (by k_mem) (by k_mem) (by k_mem) ?_
  intro t3 h3 tk3 F3 N3
  k_steps
  unfold Halt
  have nq : q ≠ lr := Nat.ne_of_gt (Nat.lt_trans (l1 (lr, _) (.head _)) l2)
  have nd : d ≠ lr := Nat.ne_of_gt (l1 (lr, _) (.head _))
  refine ins_led (by assumption) (by assumption) (.tail nq (.tail nd (.head hne))) (by (first | exact om270 | omega)) (by (first | exact om271 hsz hcut evr | omega)) (by (first | exact om272 hsz evr | omega)) ?_
  intro h4 F4 N4
  k_steps
  exact hret _ _ (by assumption) (fun p hp => (‹News h₀ L _ (_ :: _ :: _)›) p (.tail _ (.tail _ hp)))
end Mine
end

section
open PySem PySem.W PyProof.Rows PySem.Calls PySem.Spec
namespace Mine
local macro_rules | `(tactic| walk_at "call ref") => `(tactic| (k_here; k_dflt (walk_at "mine:r5"; intro x' d' h' F' N' l1 l2; (try k_lt l1); (try k_lt2 l2); (try k_sweep); walk_at "mine:own_enter")))
theorem q_tells (w : World) (mean : ExcName → Option Value) (mg mb : PySem.Str → Option Value) (x : PySem.Str) (tx : Tok) :
  ∀ (dp un : Nat) (gd : Option (List Code)) (cn : PySem.Str) (cs : Scope) (a : Addr) (ccd : Value) (cl : List (PySem.Str × Addr)) (outer : List Env) (A₀ : Around) (base h₀ : Heap) (L : Addr) (m : PySem.Str → Option Value) (news : List (Addr × Obj)) (s : Shared)
    (Q E : Value → Shared → Prop),
    Below A₀ base outer h₀ → Fr h₀ L s.heap m → (Mine.hd.heap_39 w.params).In h₀ → News h₀ L s.heap news → Top topProg lzz mean mg mb h₀ → cs.kind = .function → dp + 2 < recursionLimit → un + 16 < cLine →
    (∀ q d tk tx h' tk', Fr h₀ L h' m → News h₀ L h' ((q, instObj 129 d) :: (d, qDict w x tk tx) :: news) → (∀ p ∈ news, p.1 < d) → d < q → Q (.ref q) { s with heap := h', toks := tk' }) →
    wpAny (model Challenge.rw_ux0024_01.row.toRowW.prog w) (ktrTop dp un gd cn cs L a ccd cl outer) (call (.ref 129) [.str x tx]) Q E s := by
  k_fill
  intro dp un gd cn cs a ccd cl outer A₀ base h₀ L m news s Q E B F X N T hk hdp hu hret
  k_steps
  exact hret _ _ _ _ _ _ (by assumption) (by assumption) (by assumption) (by assumption)
end Mine
end

section
open PySem PySem.W PyProof.Rows PySem.Calls PySem.Spec
namespace Mine
theorem neOf {L n : Addr} {o : Obj} {news : List (Addr × Obj)} (h : n < L ∧ AllLt L news) : ∀ p ∈ (n, o) :: news, p.1 ≠ L + 1 := by
  intro p hp
  have h1 : @LT.lt Nat _ n L := h.1
  rcases List.mem_cons.mp hp with rfl | hp
  · exact Nat.ne_of_lt (Nat.lt_succ_of_lt h1)
  · exact Nat.ne_of_lt (Nat.lt_succ_of_lt (lt_of_all h.2 p hp))
noncomputable def wayNext (ab : List Int) (wd : List PySem.Str) (l : List PySem.Str) (i : Nat) : PySem.Str :=
  if ab.getD i 0 < 0 then Str.ofString "" else wd.getD (ab.getD i 0).toNat (Str.ofString "") ++ l.getD (ab.getD i 0).toNat (Str.ofString "")
noncomputable def wayL (ab : List Int) (wd : List PySem.Str) : Nat → List PySem.Str
  | 0 => []
  | i + 1 => wayL ab wd i ++ [wayNext ab wd (wayL ab wd i) i]
theorem wayL_length (ab : List Int) (wd : List PySem.Str) : ∀ i, (wayL ab wd i).length = i
  | 0 => rfl
  | i + 1 => by simp [wayL, wayL_length ab wd i]
theorem wayL_bound {ab : List Int} {wd : List PySem.Str} (hw : ∀ i : Nat, (wd.getD i (Str.ofString "")).length ≤ 6) : ∀ i, ∀ y ∈ wayL ab wd i, y.length ≤ 6 * i
  | 0, y, hy => absurd hy List.not_mem_nil
  | i + 1, y, hy => by
    rcases List.mem_append.mp hy with hy | hy
    · have := wayL_bound hw i y hy; (first | exact om63 this | omega)
    · rw [List.mem_singleton.mp hy]
      unfold wayNext
      split
      · rw [show (Str.ofString "").length = 0 by decide]; (first | exact om64 | omega)
      · rw [Str.length_append]
        have h1 := hw (ab.getD i 0).toNat
        have h2 : ((wayL ab wd i).getD (ab.getD i 0).toNat (Str.ofString "")).length ≤ 6 * i := by
          rw [List.getD_eq_getElem?_getD]
          cases e : (wayL ab wd i)[(ab.getD i 0).toNat]? with
          | none => rw [Option.getD_none, show (Str.ofString "").length = 0 by decide]; (first | exact om65 | omega)
          | some z => rw [Option.getD_some]; exact wayL_bound hw i z (List.mem_of_getElem? e)
        (first | exact om66 h1 h2 | omega)
theorem newsSub {h₀ h : Heap} {L : Addr} {l : List (Addr × Obj)} (N : News h₀ L h l) (l' : List (Addr × Obj)) (hs : ∀ p ∈ l', p ∈ l) : News h₀ L h l' := fun p hp => N p (hs p hp)
theorem intsHead {h₀ h : Heap} {L p : Addr} {vs : List Value} {ss : List Int} {r : List (Addr × Obj)} (N : News h₀ L h ((p, listOf vs.toArray 0) :: r)) (hi : IntsAre vs ss) : ∃ us, News h₀ L h ((p, listOf us.toArray 0) :: r) ∧ IntsAre us ss := ⟨vs, N, hi⟩
theorem headObj {h₀ h : Heap} {L p : Addr} {o : Obj} {r : List (Addr × Obj)} (_ : News h₀ L h ((p, o) :: r)) : ∃ o', o' = o := ⟨o, rfl⟩
noncomputable def nodes7 : List Int := [1, 2, 3, 4, 5, 6, 0]
noncomputable def cutF (f : Int → PySem.Str) (row : List Int) (node : Int) : Nat := (row.filter fun r => !decide ((f node).cps.toList < (f r).cps.toList)).length
noncomputable def rowL (f : Int → PySem.Str) : Nat → List Int
  | 0 => []
  | i + 1 => (rowL f i).take (cutF f (rowL f i) (nodes7.getD i 0)) ++ nodes7.getD i 0 :: (rowL f i).drop (cutF f (rowL f i) (nodes7.getD i 0))
theorem rowL_length (f : Int → PySem.Str) : ∀ i, (rowL f i).length = i
  | 0 => rfl
  | i + 1 => by
    have := rowL_length f i
    simp only [rowL, List.length_append, List.length_take, List.length_cons, List.length_drop]
    (first | exact om67 this | omega)
theorem nodes7_range : ∀ i, i < 7 → 0 ≤ nodes7.getD i 0 ∧ nodes7.getD i 0 < 7 := by decide
theorem rowL_mem (f : Int → PySem.Str) : ∀ i, i ≤ 7 → ∀ x ∈ rowL f i, 0 ≤ x ∧ x < 7
  | 0, _, x, hx => absurd hx List.not_mem_nil
  | i + 1, hi, x, hx => by
    rcases List.mem_append.mp hx with hx | hx
    · exact rowL_mem f i (by (first | exact om68 hi | omega)) x (List.mem_of_mem_take hx)
    · rcases List.mem_cons.mp hx with rfl | hx
      · exact nodes7_range i (by (first | exact om69 hi | omega))
      · exact rowL_mem f i (by (first | exact om68 hi | omega)) x (List.mem_of_mem_drop hx)
theorem rowL_range (f : Int → PySem.Str) (i : Nat) (hi : i ≤ 7) : ∀ j : Nat, j < (rowL f i).length → 0 ≤ (rowL f i).getD j 0 ∧ (rowL f i).getD j 0 < 7 := by
  intro j hj
  rw [List.getD_eq_getElem?_getD, List.getElem?_eq_getElem hj]
  exact rowL_mem f i hi _ (List.getElem_mem hj)
noncomputable def tabL : Option (Addr × Obj) → List (Addr × Obj)
  | none => [(198, tabObj #[])]
  | some (c', oc') => [(198, tabObj #[rawInt 232, rawInt 49, .ref c']), (c', oc')]
noncomputable def tabP (ln : Addr) : Option (Addr × Obj) → Prop
  | none => True
  | some (c', oc') => @LT.lt Nat _ ln c' ∧ ∃ vs t, oc'.data = .fields vs ∧ vs[1]? = some (.str (Str.ofString "_law_row.<locals>.<lambda>") t)
theorem news_4th {h₀ h : Heap} {L : Addr} {a b c d : Addr × Obj} {r : List (Addr × Obj)} (N : News h₀ L h (a :: b :: c :: d :: r)) : News h₀ L h (d :: a :: b :: c :: r) := newsSub N _ (by walk_at "mine:sub")
theorem news_3rd {h₀ h : Heap} {L : Addr} {a b c : Addr × Obj} {r : List (Addr × Obj)} (N : News h₀ L h (a :: b :: c :: r)) : News h₀ L h (c :: a :: b :: r) := newsSub N _ (by walk_at "mine:sub")
theorem ints_ins {vs : List Value} {ss : List Int} (h : IntsAre vs ss) (k : Nat) (x : Int) (t : Tok) : IntsAre (vs.take k ++ .int x t :: vs.drop k) (ss.take k ++ x :: ss.drop k) :=
  IntsAre.append (IntsAre.take h k) (.cons x t (IntsAre.drop h k))
theorem frIs {h₀ h : Heap} {L : Addr} {m : PySem.Str → Option Value} (_ : Fr h₀ L h m) : ∃ l, l = L := ⟨_, rfl⟩
theorem cellHead {h₀ h : Heap} {L p : Addr} {o : Obj} {v : Value} {q q' q'' : Addr × Obj} {r : List (Addr × Obj)} (N : News h₀ L h (q :: q' :: q'' :: (p, o) :: r)) (hd : o.data = .cell (some v)) : ∃ o', News h₀ L h (q :: q' :: q'' :: (p, o') :: r) ∧ o'.data = .cell (some v) := ⟨o, N, hd⟩
local macro_rules | `(tactic| k_all) => `(tactic| assumption)
local macro_rules | `(tactic| k_mem) => `(tactic| first | assumption | (refine List.mem_cons_of_mem _ ?_; first | assumption | k_mem))
local macro_rules | `(tactic| walk_at "call ref") => `(tactic| (refine Halt.mk ?_))
local macro_rules | `(tactic| walk_at "pyIter ref") => `(tactic| (refine Halt.mk ?_))
local macro_rules | `(tactic| walk_at "subscriptTail") => `(tactic| (refine Halt.mk ?_))
local macro_rules | `(tactic| walk_at "call builtin:list.append") => `(tactic| (refine Halt.mk ?_))
local macro_rules | `(tactic| walk_at "binaryOp Add str str") => `(tactic| (refine Halt.mk ?_))
theorem row_tells (w : World) (mean : ExcName → Option Value) (mg mb : PySem.Str → Option Value) (lab lwd : Addr) (vab vwd : List Value) (nab nwd : Nat) (ab : List Int) (wd : List PySem.Str) (hab : IntsAre vab ab) (hwd : StrsAre vwd wd)
    (e1 : ab.length = 7) (e2 : wd.length = 7) (hw : ∀ i : Nat, (wd.getD i (Str.ofString "")).length ≤ 6) (ha : ∀ i : Nat, i < 7 → ab.getD i 0 < i) (f : Int → PySem.Str) (hf : f = fun i => (wayL ab wd 7).getD i.toNat (Str.ofString ""))
    (hcut : ∀ i, i < 7 → ∀ j : Nat, j < (rowL f i).length → decide ((f (nodes7.getD i 0)).cps.toList < (f ((rowL f i).getD j 0)).cps.toList) = decide (cutF f (rowL f i) (nodes7.getD i 0) ≤ j)) :
  ∀ (dp un : Nat) (gd : Option (List Code)) (cn : PySem.Str) (cs : Scope) (a : Addr) (ccd : Value) (cl : List (PySem.Str × Addr)) (outer : List Env) (A₀ : Around) (base h₀ : Heap) (L : Addr) (m : PySem.Str → Option Value) (news : List (Addr × Obj)) (s : Shared)
    (Q E : Value → Shared → Prop),
    Below A₀ base outer h₀ → Fr h₀ L s.heap m → (Mine.hd.heap_39 w.params).In h₀ → News h₀ L s.heap ((198, tabObj #[]) :: news) → Top topProg lzz mean mg mb h₀ → cs.kind = .function → dp + 8 < recursionLimit → un + 64 < cLine →
    CodeHd h₀ 202 198 → (lab, listOf vab.toArray nab) ∈ news → (lwd, listOf vwd.toArray nwd) ∈ news → (∀ p ∈ news, p.1 ≠ 198) → 
    (∀ ly lr lg lt vy vr ny nr ng (ps : Array Value) h' tk', StrsAre vy (wayL ab wd 7) → IntsAre vr (rowL f 7) → Fr h₀ L h' m → News h₀ L h' ((lt, tupObj #[.ref ly, .ref lr, .ref lg]) :: (lg, listOf (List.replicate 7 Value.none).toArray ng) :: (lr, listOf vr.toArray nr) :: (ly, listOf vy.toArray ny) :: (198, tabObj ps) :: news) → (∀ p ∈ news, p.1 < ly) → ly < lr → lr < lg → lg < lt → Q (.ref lt) { s with heap := h', toks := tk' }) →
    wpAny (model Challenge.rw_ux0024_01.row.toRowW.prog w) (ktrTop dp un gd cn cs L a ccd cl outer) (call (.ref 203) [.ref lab, .ref lwd]) Q E s := by
  k_fill
  revert hab hwd e1 e2 hw ha hf hcut
  revert lzz w mean mg mb lab lwd vab vwd nab nwd ab wd f
  refine @pk12 _ _ _ _ _ _ _ _ _ _ _ _  ⟨default, (aWorld 0), default, default, default, default, default, default, default, default, default, default⟩ _ ?_; generalize pick12 _ _ = zz; generalize zz.1 = lzz; generalize zz.2.1 = w; generalize zz.2.2.1 = mean; generalize zz.2.2.2.1 = mg; generalize zz.2.2.2.2.1 = mb; generalize zz.2.2.2.2.2.1 = lab; generalize zz.2.2.2.2.2.2.1 = lwd; generalize zz.2.2.2.2.2.2.2.1 = vab; generalize zz.2.2.2.2.2.2.2.2.1 = vwd; generalize zz.2.2.2.2.2.2.2.2.2.1 = nab; generalize zz.2.2.2.2.2.2.2.2.2.2.1 = nwd; generalize zz.2.2.2.2.2.2.2.2.2.2.2 = ab; clear zz
  refine @pk2 _ _ inferInstance _ ?_; generalize pick2 _ _ = zz; generalize zz.1 = wd; generalize zz.2 = f; clear zz
  intro hab hwd e1 e2 hw ha hf hcut
  intro dp un gd cn cs a ccd cl outer A₀ base h₀ L m news s Q E B F X N T hk hdp hu C hm1 hm2 h198 hret
  revert B F X N T hk hdp hu C hm1 hm2 h198 hret
  revert dp un gd cn cs a ccd cl outer A₀ base h₀ L m news s Q E
  refine pk12 (o := ⟨default, default, default, default, default, default, default, default, default, callerA, default, default⟩) ?_; generalize pick12 _ _ = zz; generalize zz.1 = dp; generalize zz.2.1 = un; generalize zz.2.2.1 = gd; generalize zz.2.2.2.1 = cn; generalize zz.2.2.2.2.1 = cs; generalize zz.2.2.2.2.2.1 = a; generalize zz.2.2.2.2.2.2.1 = ccd; generalize zz.2.2.2.2.2.2.2.1 = cl; generalize zz.2.2.2.2.2.2.2.2.1 = outer; generalize zz.2.2.2.2.2.2.2.2.2.1 = A₀; generalize zz.2.2.2.2.2.2.2.2.2.2.1 = base; generalize zz.2.2.2.2.2.2.2.2.2.2.2 = h₀; clear zz
  refine pk6 (o := ⟨default, default, default, ({} : Shared), default, default⟩) ?_; generalize pick6 _ _ = zz; generalize zz.1 = L; generalize zz.2.1 = m; generalize zz.2.2.1 = news; generalize zz.2.2.2.1 = s; generalize zz.2.2.2.2.1 = Q; generalize zz.2.2.2.2.2 = E; clear zz
  intro B F X N T hk hdp hu C hm1 hm2 h198 hret
  have hz := size_is
  refine wpAny_call ?_
  k_dflt walk_at "mine:own_enterC"
  (rename 198 < _ ∧ AllLt _ news => hL)
  (rename Fr h₀ L _ m => FG)
  have Cg := C.keeps FG.keep
  have hne := neOf (o := tabObj #[]) hL
  k_steps
  unfold Halt
  rename_i zv26 zv25 _ _ zv24 zv23 zv22 zv21 zv20 zv19 _ zv18 _ zv17 zv16 _ zv15 _ zv14 _ _ zv13 _ zv12 zv11 zv10 zv9 zv8 zv7 zv6 zv5 zv4 zv3 zv2 zv1 zv0
  revert FG zv24 zv23 zv22 hL zv20 Cg hne zv18 zv16 zv14 zv12 zv10 zv9 zv3 zv2 zv1 zv0
  revert zv26 zv25 zv21 zv19 zv17 zv15 zv13 zv11 tk zv8 zv7 zv6 zv5 zv4
  refine pk12 ?_; generalize pick12 _ _ = zz; generalize zz.1 = zv26; generalize zz.2.1 = zv25; generalize zz.2.2.1 = zv21; generalize zz.2.2.2.1 = zv19; generalize zz.2.2.2.2.1 = zv17; generalize zz.2.2.2.2.2.1 = zv15; generalize zz.2.2.2.2.2.2.1 = zv13; generalize zz.2.2.2.2.2.2.2.1 = zv11; generalize zz.2.2.2.2.2.2.2.2.1 = tk; generalize zz.2.2.2.2.2.2.2.2.2.1 = zv8; generalize zz.2.2.2.2.2.2.2.2.2.2.1 = zv7; generalize zz.2.2.2.2.2.2.2.2.2.2.2 = zv6; clear zz
  refine pk2 ?_; generalize pick2 _ _ = zz; generalize zz.1 = zv5; generalize zz.2 = zv4; clear zz
  intro FG _ _ _ hL _ Cg hne _ _ _ _ _ _ _ _ _ _
  (rename News _ _ _ ((_, W.listOf _ 0) :: (_, W.listOf _ 0) :: (_, W.listOf _ 0) :: _ :: (198, tabObj #[]) :: news) => NB)
  (rename Fr _ _ _ _ => FB)
  obtain ⟨lg, hlg⟩ := headIs NB
  obtain ⟨lr, hlr⟩ := headIs2 NB
  obtain ⟨ly, hly⟩ := headIs3 NB
  obtain ⟨L1, hL1⟩ := frIs FB
  subst hlg hlr hly hL1
  obtain ⟨oc, NC, hoc⟩ := cellHead NB (by assumption)
  (rename L1 + 1 < ly ∧ 198 < ly ∧ AllLt ly news => hb1)
  (rename ly < lr ∧ L1 + 1 < lr ∧ 198 < lr ∧ AllLt lr news => hb2)
  (rename lr < lg ∧ ly < lg ∧ L1 + 1 < lg ∧ 198 < lg ∧ AllLt lg news => hb3)
  have n198 : @LT.lt Nat _ 198 L1 := hL.1
  have q1 : @LT.lt Nat _ (L1 + 1) ly := hb1.1
  have q2 : @LT.lt Nat _ ly lr := hb2.1
  have q3 : @LT.lt Nat _ lr lg := hb3.1
  have hnL : ∀ p ∈ news, @LT.lt Nat _ p.1 L1 := lt_of_all hL.2
  have rest1 : ∀ q ∈ (lg, listOf #[] 0) :: (lr, listOf #[] 0) :: (L1 + 1, oc) :: (198, tabObj #[]) :: news, q.1 ≠ ly := by
    intro q hq
    rcases List.mem_cons.mp hq with rfl | hq
    · exact Nat.ne_of_gt (Nat.lt_trans q2 q3)
    rcases List.mem_cons.mp hq with rfl | hq
    · exact Nat.ne_of_gt q2
    rcases List.mem_cons.mp hq with rfl | hq
    · exact Nat.ne_of_lt q1
    rcases List.mem_cons.mp hq with rfl | hq
    · exact Nat.ne_of_lt (Nat.lt_trans n198 (Nat.lt_of_succ_lt q1))
    · exact Nat.ne_of_lt (Nat.lt_trans (hnL q hq) (Nat.lt_of_succ_lt q1))
  have NC2 := newsSub NC ((ly, listOf #[] 0) :: (lg, listOf #[] 0) :: (lr, listOf #[] 0) :: (L1 + 1, oc) :: (198, tabObj #[]) :: news) (by walk_at "mine:sub")
  refine rng_st 7 (σ := List Value × Nat) (fun c => (ly, listOf c.1.toArray c.2) :: (lg, listOf #[] 0) :: (lr, listOf #[] 0) :: (L1 + 1, oc) :: (198, tabObj #[]) :: news) (fun _ => []) []
    (fun i c => StrsAre c.1 (wayL ab wd i)) ([], 0) rfl (by assumption) (range_small (by (first | exact om70 | omega)) (by (first | exact om71 | omega)) (by (first | exact om72 | omega)) (by (first | exact om73 | omega))) (range_size (by (first | exact om74 | omega))) FB ?N (List.forall_mem_nil _) .nil ?turn ?done
  case N => exact NC2
  case turn =>
    intro I i c t u h tk hi hc off F3 N3
    rename_i zv30 zv29 zv28 zv27
    revert zv30 hL zv29 hne zv28 FB hb1 hb2 hb3 zv27 NB NC hoc n198 q1 q2 q3 hnL rest1 NC2 hi hc off F3 N3
    revert lg lr ly L1 oc I i c t u h tk
    refine pk12 ?_; generalize pick12 _ _ = zz; generalize zz.1 = lg; generalize zz.2.1 = lr; generalize zz.2.2.1 = ly; generalize zz.2.2.2.1 = L1; generalize zz.2.2.2.2.1 = oc; generalize zz.2.2.2.2.2.1 = I; generalize zz.2.2.2.2.2.2.1 = i; generalize zz.2.2.2.2.2.2.2.1 = c; generalize zz.2.2.2.2.2.2.2.2.1 = t; generalize zz.2.2.2.2.2.2.2.2.2.1 = u; generalize zz.2.2.2.2.2.2.2.2.2.2.1 = h; generalize zz.2.2.2.2.2.2.2.2.2.2.2 = tk; clear zz
    intro _ hL _ hne _ FB hb1 hb2 hb3 _ NB NC hoc n198 q1 q2 q3 hnL rest1 NC2 hi hc off F3 N3
    obtain ⟨vs, ns⟩ := c
    dsimp only [kstB] at hc F3 N3 off
    simp only [List.contains_nil, Bool.false_eq_true, if_false] at F3
    have oI : I ≠ ly := Ne.symm (off (ly, _) (.head _))
    have evs := strs_len hc
    rw [wayL_length] at evs
    have hbd := wayL_bound (ab := ab) hw i
    have hai := ha i hi
    k_steps
    unfold Halt
    
    refine item_ints (by assumption) (by k_mem) hab (by (first | exact om75 hi evs | omega)) (by (first | exact om76 e1 hi evs | omega)) (by (first | exact om77 hi evs | omega)) ?_ (by with_unfolding_all rfl)
    intro t1
    revert t1
    refine pk1 ?_; generalize pick1 _ _ = t1
    rw [show (0 + (i : Int)).toNat = i by (first | exact om78 hi evs | omega)]
    k_steps
    · unfold Halt
      refine app_led (by assumption) (by assumption) (.tail oI (.head rest1)) (by (first | exact om79 hi evs | omega)) ?_
      intro h2 F4 N4
      revert hc off N3 evs F4 N4
      revert vs ns tk h2
      refine pk4 ?_; generalize pick4 _ _ = zz; generalize zz.1 = vs; generalize zz.2.1 = ns; generalize zz.2.2.1 = tk; generalize zz.2.2.2 = h2; clear zz
      intro hc off N3 evs F4 N4
      k_steps
      refine UnrEnd.st (vs ++ [_], ns + 1) (by assumption) (by assumption) (fun p hp => ?_) (.head _) (fun p hp => List.mem_cons_of_mem _ hp) ?_ (List.forall_mem_nil _) ?_
      · rcases List.mem_cons.mp hp with rfl | hp
        · exact Ne.symm oI
        · exact off p (.tail _ hp)
      · show StrsAre _ (wayL ab wd i ++ [wayNext ab wd (wayL ab wd i) i])
        unfold wayNext
        rw [if_pos (by assumption)]
        exact StrsAre.snoc hc _ _
      · intro z z1 _ z3
        simp [z1]
    · unfold Halt
      refine item_ints (by assumption) (by k_mem) hab (by (first | exact om75 hi evs | omega)) (by (first | exact om76 e1 hi evs | omega)) (by (first | exact om77 hi evs | omega)) ?_ (by with_unfolding_all rfl)
      intro t2
      revert tk t2
      refine pk2 ?_; generalize pick2 _ _ = zz; generalize zz.1 = tk; generalize zz.2 = t2; clear zz
      rw [show (0 + (i : Int)).toNat = i by (first | exact om80 hi evs hai (by assumption) | omega)]
      k_steps
      unfold Halt
      
      refine item_strs (by assumption) (by k_mem) hwd (by (first | exact om81 (by assumption) | omega)) (by (first | exact om82 e2 hi evs hai | omega)) (by (first | exact om83 hi evs hai | omega)) ?_ (by with_unfolding_all rfl)
      intro t3
      revert t3
      refine pk1 ?_; generalize pick1 _ _ = t3
      k_steps
      unfold Halt
      
      refine item_ints (by assumption) (by k_mem) hab (by (first | exact om75 hi evs | omega)) (by (first | exact om76 e1 hi evs | omega)) (by (first | exact om77 hi evs | omega)) ?_ (by with_unfolding_all rfl)
      intro t4
      revert t4
      refine pk1 ?_; generalize pick1 _ _ = t4
      rw [show (0 + (i : Int)).toNat = i by (first | exact om80 hi evs hai (by assumption) | omega)]
      k_steps
      unfold Halt
      
      refine item_strs (by assumption) (by k_mem) hc (by (first | exact om81 (by assumption) | omega)) (by rw [wayL_length]; (first | exact om84 hai | omega)) (by (first | exact om83 hi evs hai | omega)) ?_ (by with_unfolding_all rfl)
      intro t5
      revert t5
      refine pk1 ?_; generalize pick1 _ _ = t5
      k_steps
      unfold Halt
      
      have b1 := hw (ab.getD i 0).toNat
      have b2 : ((wayL ab wd i).getD (ab.getD i 0).toNat (Str.ofString "")).length ≤ 6 * i := by
        rw [List.getD_eq_getElem?_getD]
        cases e : (wayL ab wd i)[(ab.getD i 0).toNat]? with
        | none => rw [Option.getD_none, show (Str.ofString "").length = 0 by decide]; (first | exact om85 hi evs | omega)
        | some z => rw [Option.getD_some]; exact hbd z (List.mem_of_getElem? e)
      refine PyProof.Rows.add_str ?_ (by rw [hz]; (first | exact om86 hi evs b1 b2 | omega))
      intro _ _
      k_steps
      unfold Halt
      rename_i zv32 zv31
      revert zv32 zv31
      refine pk2 ?_; generalize pick2 _ _ = zz; generalize zz.1 = zv32; generalize zz.2 = zv31; clear zz
      refine app_led (by assumption) (by assumption) (.tail oI (.head rest1)) (by (first | exact om79 hi evs | omega)) ?_
      intro h2 F4 N4
      revert hc off N3 evs F4 N4
      revert vs ns h2
      refine pk3 ?_; generalize pick3 _ _ = zz; generalize zz.1 = vs; generalize zz.2.1 = ns; generalize zz.2.2 = h2; clear zz
      intro hc off N3 evs F4 N4
      k_steps
      refine UnrEnd.st (vs ++ [_], ns + 1) (by assumption) (by assumption) (fun p hp => ?_) (.head _) (fun p hp => List.mem_cons_of_mem _ hp) ?_ (List.forall_mem_nil _) ?_
      · rcases List.mem_cons.mp hp with rfl | hp
        · exact Ne.symm oI
        · exact off p (.tail _ hp)
      · show StrsAre _ (wayL ab wd i ++ [wayNext ab wd (wayL ab wd i) i])
        unfold wayNext
        rw [if_neg (by (first | exact om87 (by assumption) | omega))]
        exact StrsAre.snoc hc _ _
      · intro z z1 _ z3
        simp [z1]
  case done =>
    intro c u h tk hc F3 N3
    rename_i zv36 zv35 zv34 zv33
    revert zv36 hL zv35 hne zv34 FB hb1 hb2 hb3 zv33 NB NC hoc n198 q1 q2 q3 hnL rest1 NC2 hc F3 N3
    revert lg lr ly L1 oc c u h tk
    refine pk9 ?_; generalize pick9 _ _ = zz; generalize zz.1 = lg; generalize zz.2.1 = lr; generalize zz.2.2.1 = ly; generalize zz.2.2.2.1 = L1; generalize zz.2.2.2.2.1 = oc; generalize zz.2.2.2.2.2.1 = c; generalize zz.2.2.2.2.2.2.1 = u; generalize zz.2.2.2.2.2.2.2.1 = h; generalize zz.2.2.2.2.2.2.2.2 = tk; clear zz
    intro _ hL _ hne _ FB hb1 hb2 hb3 _ NB NC hoc n198 q1 q2 q3 hnL rest1 NC2 hc F3 N3
    obtain ⟨vy, ny⟩ := c
    dsimp only [kstB] at hc F3 N3
    simp only [List.contains_nil, Bool.false_eq_true, if_false] at F3
    k_steps
    unfold Halt
    rename_i zv41 zv40 zv39 zv38 zv37
    revert hc zv39 zv38 zv37
    revert vy ny zv41 zv40
    refine pk4 ?_; generalize pick4 _ _ = zz; generalize zz.1 = vy; generalize zz.2.1 = ny; generalize zz.2.2.1 = zv41; generalize zz.2.2.2 = zv40; clear zz
    intro hc _ _ _
    (rename News _ _ _ ((_, W.listOf _ 0) :: _) => ND)
    (rename Fr _ _ _ _ => FD)
    obtain ⟨ln, hln⟩ := headIs ND
    subst hln
    (rename ly < ln ∧ lg < ln ∧ lr < ln ∧ L1 + 1 < ln ∧ 198 < ln ∧ AllLt ln news => hb4)
    obtain ⟨vn, ND2, hvn⟩ := intsHead (ss := [1, 2, 3, 4, 5, 6, 0]) ND (.cons _ _ (.cons _ _ (.cons _ _ (.cons _ _ (.cons _ _ (.cons _ _ (.cons _ _ .nil)))))))
    have q4 : @LT.lt Nat _ lg ln := hb4.2.1
    refine lst_st (σ := List Value × Nat × List Value × Nat × Option (Addr × Obj)) (ax := ln) (lo := listOf vn.toArray 0) (vs := vn) (n := 0) (fun c => (lr, listOf c.1.toArray c.2.1) :: (lg, listOf c.2.2.1.toArray c.2.2.2.1) :: (ln, listOf vn.toArray 0) :: (ly, listOf vy.toArray ny) :: (L1 + 1, oc) :: (tabL c.2.2.2.2 ++ news)) (fun _ => []) []
      (fun i c => IntsAre c.1 (rowL f i) ∧ c.2.2.1 = List.replicate i Value.none ∧ tabP ln c.2.2.2.2) ([], 0, [], 0, none) rfl rfl rfl (fun c => .tail _ (.tail _ (.head _))) FD ?N2 (List.forall_mem_nil _) ⟨.nil, rfl, trivial⟩ ?turn2 ?done2
    case N2 => exact newsSub ND2 ((lr, listOf #[] 0) :: (lg, listOf #[] 0) :: (ln, listOf vn.toArray 0) :: (ly, listOf vy.toArray ny) :: (L1 + 1, oc) :: (198, tabObj #[]) :: news) (by walk_at "mine:sub")
    case turn2 =>
      intro I it i c v u h tk hv hit hJ off F3 N3
      revert ND hb4 ND2 hvn q4 hv hit hJ off F3 N3
      revert ln vn I it i c v u h tk
      refine pk10 ?_; generalize pick10 _ _ = zz; generalize zz.1 = ln; generalize zz.2.1 = vn; generalize zz.2.2.1 = I; generalize zz.2.2.2.1 = it; generalize zz.2.2.2.2.1 = i; generalize zz.2.2.2.2.2.1 = c; generalize zz.2.2.2.2.2.2.1 = v; generalize zz.2.2.2.2.2.2.2.1 = u; generalize zz.2.2.2.2.2.2.2.2.1 = h; generalize zz.2.2.2.2.2.2.2.2.2 = tk; clear zz
      intro ND hb4 ND2 hvn q4 hv hit hJ off F3 N3
      obtain ⟨vr, nr, vg, ng, tab⟩ := c
      obtain ⟨hvr, hvg, hP⟩ := hJ
      have hi7 : i < 7 := by
        rcases Nat.lt_or_ge i vn.length with h | h
        · have := ints_len hvn
          simp at this
          (first | exact om88 h this | omega)
        · rw [List.getElem?_eq_none h] at hv; cases hv
      obtain ⟨tx, htx⟩ := ints_getD hvn (i := i) hi7
      rw [hv] at htx
      have htx := Option.some.inj htx
      subst htx
      dsimp only [kstB] at F3 N3 off hvr hvg hP
      simp only [List.contains_nil, Bool.false_eq_true, if_false] at F3
      have rl := rowL_length f i
      have evr := ints_len hvr
      have hnode : 0 ≤ nodes7.getD i 0 ∧ nodes7.getD i 0 < 7 := nodes7_range i hi7
      have hrange := rowL_range f i (by (first | exact om89 hi7 rl evr | omega))
      cases tab with
      | none =>
        dsimp only [tabL] at N3 off
        replace N3 := newsSub N3 ((I, it) :: (lr, W.listOf vr.toArray nr) :: (lg, W.listOf vg.toArray ng) :: (ln, W.listOf vn.toArray 0) :: (ly, W.listOf vy.toArray ny) :: (L1 + 1, oc) :: (198, tabObj #[]) :: news) (by intro p hp; simpa using hp)
        k_steps
        refine kla_eval rfl ?_
        have nI : I ≠ 198 := Ne.symm (off (198, tabObj #[]) (by simp))
        have U : UpdF 198 (tabObj #[]) ((I, it) :: (lr, W.listOf vr.toArray nr) :: (lg, W.listOf vg.toArray ng) :: (ln, W.listOf vn.toArray 0) :: (ly, W.listOf vy.toArray ny) :: (L1 + 1, oc) :: (198, tabObj #[]) :: news) _ := .tail nI (.tail (Nat.ne_of_gt hb2.2.2.1) (.tail (Nat.ne_of_gt hb3.2.2.2.1) (.tail (Nat.ne_of_gt hb4.2.2.2.2.1) (.tail (Nat.ne_of_gt hb1.2.1) (.tail (Nat.ne_of_gt (Nat.lt_succ_of_lt n198)) (.head h198))))))
        refine kla_nest (by assumption) (by assumption) (by assumption) Cg rfl U (by kn_triples) (by kn_among) rfl ?_
        intro f' c' oc' vs' t' ct' h' tk' F4 N4 d1 d2 l1 l2
        revert hvr hvg hv htx F3 evr off N3 U F4 N4 d1 d2 l1 l2
        revert vr nr vg ng tx f' c' oc' vs' t' ct' h' tk'
        refine pk12 ?_; generalize pick12 _ _ = zz; generalize zz.1 = vr; generalize zz.2.1 = nr; generalize zz.2.2.1 = vg; generalize zz.2.2.2.1 = ng; generalize zz.2.2.2.2.1 = tx; generalize zz.2.2.2.2.2.1 = f'; generalize zz.2.2.2.2.2.2.1 = c'; generalize zz.2.2.2.2.2.2.2.1 = oc'; generalize zz.2.2.2.2.2.2.2.2.1 = vs'; generalize zz.2.2.2.2.2.2.2.2.2.1 = t'; generalize zz.2.2.2.2.2.2.2.2.2.2.1 = ct'; generalize zz.2.2.2.2.2.2.2.2.2.2.2 = h'; clear zz
        refine pk1 ?_; generalize pick1 _ _ = tk'
        intro hvr hvg hv htx F3 evr off N3 U F4 N4 d1 d2 l1 l2
        dsimp only at N4
        obtain ⟨ol, hol⟩ := headObj N4
        have hkey : KeyTells w mean mg mb lzz f' [(f', ol), (c', oc'), (L1 + 1, oc), (ly, listOf vy.toArray ny)] 7 f := by
          subst hol hf
          clear hret N4 F4 l1 l2 U hu F3 N3 off
          intro i ti hi0 hi7 dp un gd cn cs a ccd cl outer A₀ base h₀ L m more s Q E B F X N hsub T hk hdp hu hret
          have m1 := hsub _ (.head _)
          have m2 := hsub _ (.tail _ (.head _))
          have m3 := hsub _ (.tail _ (.tail _ (.head _)))
          have m4 := hsub _ (.tail _ (.tail _ (.tail _ (.head _))))
          refine wpAny_call ?_
          walk_at "mine:own_enterL"
          k_steps
          unfold Halt
          rename_i zv50 zv49 zv48 zv47 zv46 zv45 zv44 zv43 zv42
          revert hi0 hi7 B F X N hsub T hk hdp hu hret m1 m2 m3 m4 zv47 zv46 zv45 zv44 zv43 zv42
          revert i ti dp un gd cn cs a ccd cl outer A₀ base h₀ L m more s Q E zv50 zv49 zv48 qk ek
          try walk_at "mine:z"
          refine pk12 (o := ⟨default, default, default, default, default, default, default, default, default, default, default, callerA⟩) ?_; generalize pick12 _ _ = zz; generalize zz.1 = i; generalize zz.2.1 = ti; generalize zz.2.2.1 = dp; generalize zz.2.2.2.1 = un; generalize zz.2.2.2.2.1 = gd; generalize zz.2.2.2.2.2.1 = cn; generalize zz.2.2.2.2.2.2.1 = cs; generalize zz.2.2.2.2.2.2.2.1 = a; generalize zz.2.2.2.2.2.2.2.2.1 = ccd; generalize zz.2.2.2.2.2.2.2.2.2.1 = cl; generalize zz.2.2.2.2.2.2.2.2.2.2.1 = outer; generalize zz.2.2.2.2.2.2.2.2.2.2.2 = A₀; clear zz
          refine pk11 (o := ⟨default, default, default, default, default, ({} : Shared), default, default, default, default, default⟩) ?_; generalize pick11 _ _ = zz; generalize zz.1 = base; generalize zz.2.1 = h₀; generalize zz.2.2.1 = L; generalize zz.2.2.2.1 = m; generalize zz.2.2.2.2.1 = more; generalize zz.2.2.2.2.2.1 = s; generalize zz.2.2.2.2.2.2.1 = Q; generalize zz.2.2.2.2.2.2.2.1 = E; generalize zz.2.2.2.2.2.2.2.2.1 = zv50; generalize zz.2.2.2.2.2.2.2.2.2.1 = zv49; generalize zz.2.2.2.2.2.2.2.2.2.2 = zv48; clear zz
          intro hi0 hi7 B F X N hsub T hk hdp hu hret m1 m2 m3 m4 _ _ _ _ _ _
          try k_fold
          refine item_strs (by assumption) (by k_mem) hc (by (first | exact om90 hi0 | omega)) (by rw [wayL_length]; (first | exact om91 hi7 | omega)) (by (first | exact om92 hi0 hi7 | omega)) ?_ (by with_unfolding_all rfl)
          intro t5
          k_steps
          unfold Halt
          revert t5
          refine pk1 ?_; generalize pick1 _ _ = t5
          refine q_tells w mean mg mb _ t5 _ _ _ _ _ _ _ _ _ _ _ _ _ _ _ _ _ _ (by assumption) (by assumption) (by assumption) (by assumption) (by assumption) rfl (by show dp + 1 + 2 < _; (first | exact om93 hdp | omega)) (by show un + 3 + 16 < _; (first | exact om94 hu | omega)) ?_
          intro q d tk tx h2 tk2 F2 N2 r1 r2
          k_steps
          exact hret q d tk tx _ _ (by assumption) (by assumption) r1 r2
        subst hol
        k_steps
        unfold Halt
        
        have N5 := news_4th N4
        refine insort_tells w mean mg mb lr f' vr (rowL f i) nr (nodes7.getD i 0) tx f (cutF f (rowL f i) (nodes7.getD i 0)) _ _ _ _ hvr (by (first | exact om95 hi7 rl evr | omega)) hrange hnode (Nat.le_trans (List.length_filter_le _ _) (Nat.le_refl _)) (hcut i hi7) _ _ _ _ _ _ _ _ _ _ _ _ _ _ _ _ _ _ (by assumption) (by assumption) (by assumption) N5 (by assumption) rfl (by show dp + 1 + 6 < _; (first | exact om96 hdp | omega)) (by show un + 3 + 48 < _; (first | exact om97 hu | omega)) ?_ (hkey.mono (by intro p hp; simp only [List.mem_cons, List.not_mem_nil, or_false] at hp; rcases hp with rfl | rfl | rfl | rfl <;> k_mem)) (by k_mem) ?_
        · intro p hp
          simp only [List.mem_cons] at hp
          rcases hp with rfl | rfl | rfl | rfl | rfl | rfl | rfl | rfl | hp
          · exact Nat.ne_of_gt (Nat.lt_trans (l1 (lr, _) (.tail _ (.head _))) l2)
          · exact Nat.ne_of_gt (l1 (lr, _) (.tail _ (.head _)))
          · exact Ne.symm (off (lr, _) (.head _))
          · exact Nat.ne_of_gt q3
          · exact Nat.ne_of_gt (Nat.lt_trans q3 q4)
          · exact Nat.ne_of_lt q2
          · exact Nat.ne_of_lt (Nat.lt_trans q1 q2)
          · exact Nat.ne_of_lt (Nat.lt_trans n198 (Nat.lt_trans (Nat.lt_of_succ_lt q1) q2))
          · exact Nat.ne_of_lt (Nat.lt_trans (hnL _ hp) (Nat.lt_trans (Nat.lt_of_succ_lt q1) q2))
        intro h6 tk6 F6 N6
        revert F6 N6
        revert h6 tk6
        refine pk2 ?_; generalize pick2 _ _ = zz; generalize zz.1 = h6; generalize zz.2 = tk6; clear zz
        intro F6 N6
        k_steps
        unfold Halt
        
        refine app_led (by assumption) (by assumption) (.tail (Nat.ne_of_lt q3) (.tail (Nat.ne_of_gt (Nat.lt_trans (l1 (lg, _) (.tail _ (.tail _ (.head _)))) l2)) (.tail (Nat.ne_of_gt (l1 (lg, _) (.tail _ (.tail _ (.head _))))) (.tail (Ne.symm (off (lg, _) (.tail _ (.head _)))) (.head (by
          intro p hp
          simp only [List.mem_cons] at hp
          rcases hp with rfl | rfl | rfl | rfl | hp
          · exact Nat.ne_of_gt q4
          · exact Nat.ne_of_lt (Nat.lt_trans q2 q3)
          · exact Nat.ne_of_lt (Nat.lt_trans q1 (Nat.lt_trans q2 q3))
          · exact Nat.ne_of_lt (Nat.lt_trans n198 (Nat.lt_trans (Nat.lt_of_succ_lt q1) (Nat.lt_trans q2 q3)))
          · exact Nat.ne_of_lt (Nat.lt_trans (hnL _ hp) (Nat.lt_trans (Nat.lt_of_succ_lt q1) (Nat.lt_trans q2 q3))))))))) (by rw [hvg]; simp; (first | exact om98 hi7 rl evr | omega)) ?_
        intro h7 F7 N7
        revert F7 N7
        revert h7
        refine pk1 ?_; generalize pick1 _ _ = h7
        intro F7 N7
        k_steps
        refine UnrEnd.st (vr.take (cutF f (rowL f i) (nodes7.getD i 0)) ++ .int (nodes7.getD i 0) tx :: vr.drop (cutF f (rowL f i) (nodes7.getD i 0)), nr + 1, vg ++ [.none], ng + 1, some (c', oc')) (by assumption) (by assumption) (fun p hp => ?_) (by k_mem) (fun p hp => ?_) ⟨?_, ?_, ?_⟩ (List.forall_mem_nil _) ?_
        · have hI : I < c' := l1 (I, it) (.head _)
          dsimp only [tabL] at hp
          simp only [List.mem_cons, List.cons_append, List.nil_append] at hp
          rcases hp with rfl | rfl | rfl | rfl | rfl | rfl | rfl | hp
          · exact off (lr, listOf vr.toArray nr) (.head _)
          · exact off (lg, listOf vg.toArray ng) (.tail _ (.head _))
          · exact off (ln, _) (.tail _ (.tail _ (.head _)))
          · exact off (ly, _) (.tail _ (.tail _ (.tail _ (.head _))))
          · exact off (L1 + 1, oc) (by simp)
          · exact off (198, tabObj #[]) (by simp)
          · exact Nat.ne_of_gt hI
          · exact off p (by simp [hp])
        · dsimp only [tabL] at hp
          simp only [List.mem_cons, List.cons_append, List.nil_append] at hp
          rcases hp with rfl | rfl | rfl | rfl | rfl | rfl | rfl | hp
          all_goals first | k_mem | (simp; done)
        · exact ints_ins hvr _ _ _
        · dsimp only; rw [hvg]; simp [List.replicate_succ']
        · refine ⟨?_, vs', t', d1, d2⟩
          exact l1 (ln, _) (.tail _ (.tail _ (.tail _ (.head _))))
        · intro z z1 _ z3
          simp [z1]
      | some tab =>
        obtain ⟨c', oc'⟩ := tab
        obtain ⟨hcL, vs', t', d1, d2⟩ := hP
        dsimp only [tabL] at N3 off
        replace N3 := newsSub N3 ((I, it) :: (lr, W.listOf vr.toArray nr) :: (lg, W.listOf vg.toArray ng) :: (ln, W.listOf vn.toArray 0) :: (ly, W.listOf vy.toArray ny) :: (L1 + 1, oc) :: (198, tabObj #[rawInt 232, rawInt 49, .ref c']) :: (c', oc') :: news) (by intro p hp; simpa using hp)
        have ncl : @LT.lt Nat _ ln c' := hcL
        k_steps
        unfold Halt
        rename_i zv57 zv56 zv55 zv54 zv53 zv52 zv51
        revert hvr hvg hv htx F3 evr off hcL d1 d2 N3 ncl zv53 zv52 zv51
        revert vr nr vg ng tx c' oc' vs' t' zv57 zv56 zv55 zv54
        refine pk12 ?_; generalize pick12 _ _ = zz; generalize zz.1 = vr; generalize zz.2.1 = nr; generalize zz.2.2.1 = vg; generalize zz.2.2.2.1 = ng; generalize zz.2.2.2.2.1 = tx; generalize zz.2.2.2.2.2.1 = c'; generalize zz.2.2.2.2.2.2.1 = oc'; generalize zz.2.2.2.2.2.2.2.1 = vs'; generalize zz.2.2.2.2.2.2.2.2.1 = t'; generalize zz.2.2.2.2.2.2.2.2.2.1 = zv57; generalize zz.2.2.2.2.2.2.2.2.2.2.1 = zv56; generalize zz.2.2.2.2.2.2.2.2.2.2.2 = zv55; clear zz
        refine pk1 ?_; generalize pick1 _ _ = zv54
        intro hvr hvg hv htx F3 evr off hcL d1 d2 N3 ncl _ _ _
        (rename News _ _ _ (_ :: (I, it) :: _) => N4)
        (rename Fr _ _ _ _ => F4)
        obtain ⟨f', hf'⟩ := headIs N4
        subst hf'
        (rename I < f' ∧ _ => l1)
        obtain ⟨ol, hol⟩ := headObj N4
        have hkey : KeyTells w mean mg mb lzz f' [(f', ol), (c', oc'), (L1 + 1, oc), (ly, listOf vy.toArray ny)] 7 f := by
          subst hol hf
          clear hret N4 F4 l1 hu F3 N3 off
          intro i ti hi0 hi7 dp un gd cn cs a ccd cl outer A₀ base h₀ L m more s Q E B F X N hsub T hk hdp hu hret
          have m1 := hsub _ (.head _)
          have m2 := hsub _ (.tail _ (.head _))
          have m3 := hsub _ (.tail _ (.tail _ (.head _)))
          have m4 := hsub _ (.tail _ (.tail _ (.tail _ (.head _))))
          refine wpAny_call ?_
          walk_at "mine:own_enterL"
          k_steps
          unfold Halt
          rename_i zv66 zv65 zv64 zv63 zv62 zv61 zv60 zv59 zv58
          revert hi0 hi7 B F X N hsub T hk hdp hu hret m1 m2 m3 m4 zv63 zv62 zv61 zv60 zv59 zv58
          revert f' i ti dp un gd cn cs a ccd cl outer A₀ base h₀ L m more s Q E zv66 zv65 zv64 qk ek
          try walk_at "mine:z"
          refine pk12 ?_; generalize pick12 _ _ = zz; generalize zz.1 = f'; generalize zz.2.1 = i; generalize zz.2.2.1 = ti; generalize zz.2.2.2.1 = dp; generalize zz.2.2.2.2.1 = un; generalize zz.2.2.2.2.2.1 = gd; generalize zz.2.2.2.2.2.2.1 = cn; generalize zz.2.2.2.2.2.2.2.1 = cs; generalize zz.2.2.2.2.2.2.2.2.1 = a; generalize zz.2.2.2.2.2.2.2.2.2.1 = ccd; generalize zz.2.2.2.2.2.2.2.2.2.2.1 = cl; generalize zz.2.2.2.2.2.2.2.2.2.2.2 = outer; clear zz
          refine pk12 (o := ⟨callerA, default, default, default, default, default, ({} : Shared), default, default, default, default, default⟩) ?_; generalize pick12 _ _ = zz; generalize zz.1 = A₀; generalize zz.2.1 = base; generalize zz.2.2.1 = h₀; generalize zz.2.2.2.1 = L; generalize zz.2.2.2.2.1 = m; generalize zz.2.2.2.2.2.1 = more; generalize zz.2.2.2.2.2.2.1 = s; generalize zz.2.2.2.2.2.2.2.1 = Q; generalize zz.2.2.2.2.2.2.2.2.1 = E; generalize zz.2.2.2.2.2.2.2.2.2.1 = zv66; generalize zz.2.2.2.2.2.2.2.2.2.2.1 = zv65; generalize zz.2.2.2.2.2.2.2.2.2.2.2 = zv64; clear zz
          intro hi0 hi7 B F X N hsub T hk hdp hu hret m1 m2 m3 m4 _ _ _ _ _ _
          try k_fold
          refine item_strs (by assumption) (by k_mem) hc (by (first | exact om90 hi0 | omega)) (by rw [wayL_length]; (first | exact om91 hi7 | omega)) (by (first | exact om92 hi0 hi7 | omega)) ?_ (by with_unfolding_all rfl)
          intro t5
          k_steps
          unfold Halt
          revert t5
          refine pk1 ?_; generalize pick1 _ _ = t5
          refine q_tells w mean mg mb _ t5 _ _ _ _ _ _ _ _ _ _ _ _ _ _ _ _ _ _ (by assumption) (by assumption) (by assumption) (by assumption) (by assumption) rfl (by show dp + 1 + 2 < _; (first | exact om93 hdp | omega)) (by show un + 3 + 16 < _; (first | exact om94 hu | omega)) ?_
          intro q d tk tx h2 tk2 F2 N2 r1 r2
          k_steps
          exact hret q d tk tx _ _ (by assumption) (by assumption) r1 r2
        subst hol
        have N5 := news_3rd N4
        refine insort_tells w mean mg mb lr f' vr (rowL f i) nr (nodes7.getD i 0) tx f (cutF f (rowL f i) (nodes7.getD i 0)) _ _ _ _ hvr (by (first | exact om95 hi7 rl evr | omega)) hrange hnode (Nat.le_trans (List.length_filter_le _ _) (Nat.le_refl _)) (hcut i hi7) _ _ _ _ _ _ _ _ _ _ _ _ _ _ _ _ _ _ (by assumption) (by assumption) (by assumption) N5 (by assumption) rfl (by show dp + 1 + 6 < _; (first | exact om96 hdp | omega)) (by show un + 3 + 48 < _; (first | exact om97 hu | omega)) ?_ (hkey.mono (by intro p hp; simp only [List.mem_cons, List.not_mem_nil, or_false] at hp; rcases hp with rfl | rfl | rfl | rfl <;> k_mem)) (by k_mem) ?_
        · intro p hp
          simp only [List.mem_cons] at hp
          rcases hp with rfl | rfl | rfl | rfl | rfl | rfl | rfl | rfl | hp
          · exact Nat.ne_of_gt l1.2.1
          · exact Ne.symm (off (lr, _) (.head _))
          · exact Nat.ne_of_gt q3
          · exact Nat.ne_of_gt (Nat.lt_trans q3 q4)
          · exact Nat.ne_of_lt q2
          · exact Nat.ne_of_lt (Nat.lt_trans q1 q2)
          · exact Nat.ne_of_lt (Nat.lt_trans n198 (Nat.lt_trans (Nat.lt_of_succ_lt q1) q2))
          · exact Nat.ne_of_gt (Nat.lt_trans (Nat.lt_trans q3 q4) ncl)
          · exact Nat.ne_of_lt (Nat.lt_trans (hnL _ hp) (Nat.lt_trans (Nat.lt_of_succ_lt q1) q2))
        intro h6 tk6 F6 N6
        revert N4 l1 hkey N5 F6 N6
        revert f' h6 tk6
        refine pk3 ?_; generalize pick3 _ _ = zz; generalize zz.1 = f'; generalize zz.2.1 = h6; generalize zz.2.2 = tk6; clear zz
        intro N4 l1 hkey N5 F6 N6
        k_steps
        unfold Halt
        
        refine app_led (by assumption) (by assumption) (.tail (Nat.ne_of_lt q3) (.tail (Nat.ne_of_gt l1.2.2.1) (.tail (Ne.symm (off (lg, _) (.tail _ (.head _)))) (.head (by
          intro p hp
          simp only [List.mem_cons] at hp
          rcases hp with rfl | rfl | rfl | rfl | rfl | hp
          · exact Nat.ne_of_gt q4
          · exact Nat.ne_of_lt (Nat.lt_trans q2 q3)
          · exact Nat.ne_of_lt (Nat.lt_trans q1 (Nat.lt_trans q2 q3))
          · exact Nat.ne_of_lt (Nat.lt_trans n198 (Nat.lt_trans (Nat.lt_of_succ_lt q1) (Nat.lt_trans q2 q3)))
          · exact Nat.ne_of_gt (Nat.lt_trans q4 ncl)
          · exact Nat.ne_of_lt (Nat.lt_trans (hnL _ hp) (Nat.lt_trans (Nat.lt_of_succ_lt q1) (Nat.lt_trans q2 q3)))))))) (by rw [hvg]; simp; (first | exact om98 hi7 rl evr | omega)) ?_
        intro h7 F7 N7
        revert F7 N7
        revert h7
        refine pk1 ?_; generalize pick1 _ _ = h7
        intro F7 N7
        k_steps
        refine UnrEnd.st (vr.take (cutF f (rowL f i) (nodes7.getD i 0)) ++ .int (nodes7.getD i 0) tx :: vr.drop (cutF f (rowL f i) (nodes7.getD i 0)), nr + 1, vg ++ [.none], ng + 1, some (c', oc')) (by assumption) (by assumption) (fun p hp => ?_) (by k_mem) (fun p hp => ?_) ⟨?_, ?_, ?_⟩ (List.forall_mem_nil _) ?_
        · dsimp only [tabL] at hp
          simp only [List.mem_cons, List.cons_append, List.nil_append] at hp
          rcases hp with rfl | rfl | rfl | rfl | rfl | rfl | rfl | hp
          · exact off (lr, listOf vr.toArray nr) (.head _)
          · exact off (lg, listOf vg.toArray ng) (.tail _ (.head _))
          · exact off (ln, _) (.tail _ (.tail _ (.head _)))
          · exact off (ly, _) (.tail _ (.tail _ (.tail _ (.head _))))
          · exact off (L1 + 1, oc) (by simp)
          · exact off (198, tabObj #[rawInt 232, rawInt 49, .ref c']) (by simp)
          · exact off (c', oc') (by simp)
          · exact off p (by simp [hp])
        · dsimp only [tabL] at hp
          simp only [List.mem_cons, List.cons_append, List.nil_append] at hp
          rcases hp with rfl | rfl | rfl | rfl | rfl | rfl | rfl | hp
          all_goals first | k_mem | (simp; done)
        · exact ints_ins hvr _ _ _
        · dsimp only; rw [hvg]; simp [List.replicate_succ']
        · exact ⟨hcL, vs', t', d1, d2⟩
        · intro z z1 _ z3
          simp [z1]
    case done2 =>
      intro c u h tk hJ F3 N3
      revert ND hb4 ND2 hvn q4 hJ F3 N3
      revert ln vn c u h tk
      refine pk6 ?_; generalize pick6 _ _ = zz; generalize zz.1 = ln; generalize zz.2.1 = vn; generalize zz.2.2.1 = c; generalize zz.2.2.2.1 = u; generalize zz.2.2.2.2.1 = h; generalize zz.2.2.2.2.2 = tk; clear zz
      intro ND hb4 ND2 hvn q4 hJ F3 N3
      obtain ⟨vr, nr, vg, ng, tab⟩ := c
      obtain ⟨hvr, hvg, hP⟩ := hJ
      dsimp only [kstB] at F3 N3 hvr hvg hP
      simp only [List.contains_nil, Bool.false_eq_true, if_false] at F3
      have hl7 : vn.length = 7 := ints_len hvn
      rw [hl7] at hvr hvg
      obtain ⟨ps, more, hps, hmore⟩ : ∃ ps more, tabL tab = (198, tabObj ps) :: more ∧ True := by
        cases tab with
        | none => exact ⟨_, _, rfl, trivial⟩
        | some q => exact ⟨_, _, rfl, trivial⟩
      rw [hps] at N3
      have N6 := newsSub N3 ((lg, listOf vg.toArray ng) :: (lr, listOf vr.toArray nr) :: (ly, listOf vy.toArray ny) :: (L1 + 1, oc) :: (198, tabObj ps) :: news) (by walk_at "mine:sub")
      clear N3 hps hmore hP
      k_steps
      subst hvg
      (rename _ ∧ _ ∧ _ ∧ _ ∧ _ ∧ AllLt _ news => hlt)
      (rename News h₀ L _ _ => kN)
      have kN2 := newsSub kN ((_, tupObj #[.ref ly, .ref lr, .ref lg]) :: (lg, listOf (List.replicate 7 Value.none).toArray ng) :: (lr, listOf vr.toArray nr) :: (ly, listOf vy.toArray ny) :: (198, tabObj ps) :: news) (by walk_at "mine:sub")
      exact hret _ _ _ _ _ _ _ _ _ ps _ _ hc hvr (by assumption) kN2 (fun p hp => Nat.lt_trans (hnL p hp) (Nat.lt_of_succ_lt q1)) q2 q3 hlt.1
end Mine
end

section
open PySem PySem.W PyProof.Rows PySem.Calls PySem.Spec
namespace Mine
local macro_rules | `(tactic| k_all) => `(tactic| assumption)
local macro_rules | `(tactic| k_mem) => `(tactic| first | assumption | (refine List.mem_cons_of_mem _ ?_; first | assumption | k_mem))
local macro_rules | `(tactic| walk_at "call ref") => `(tactic| (refine Halt.mk ?_))
local macro_rules | `(tactic| walk_at "subscriptTail") => `(tactic| walk_at "mine:r6")
/-- the table of the lambdas' code in _law_found -/
noncomputable def tabF : Option ((Addr × Obj) × (Addr × Obj)) → List (Addr × Obj)
  | none => [(217, tabObj #[])]
  | some ((c1, o1), (c2, o2)) => [(217, tabObj #[rawInt 257, rawInt 36, .ref c1, rawInt 258, rawInt 38, .ref c2]), (c1, o1), (c2, o2)]
noncomputable def codeP (o : Obj) : Prop := ∃ vs t, o.data = .fields vs ∧ vs[1]? = some (.str (Str.ofString "_law_found.<locals>.<lambda>") t)
noncomputable def tabFP : Option ((Addr × Obj) × (Addr × Obj)) → Prop
  | none => True
  | some (p1, p2) => codeP p1.2 ∧ codeP p2.2
noncomputable def foundF (ws : List PySem.Str) (way : PySem.Str) : Int → PySem.Str := fun i => Txt.slice (ws.getD i.toNat (Str.ofString "")) none (some (way.length : Int))
theorem headObj2 {h₀ h : Heap} {L p : Addr} {o : Obj} {q : Addr × Obj} {r : List (Addr × Obj)} (_ : News h₀ L h (q :: (p, o) :: r)) : ∃ o', o' = o := ⟨o, rfl⟩
theorem found_tells (w : World) (mean : ExcName → Option Value) (mg mb : PySem.Str → Option Value) (lr ly : Addr) (vr vy : List Value) (nr ny : Nat) (row : List Int) (ws : List PySem.Str) (hr : IntsAre vr row) (hy : StrsAre vy ws) (way : PySem.Str) (tw : Tok)
    (hsz : row.length ≤ 7) (hrr : ∀ i : Nat, i < row.length → 0 ≤ row.getD i 0 ∧ row.getD i 0 < 7) (hws : ws.length = 7) (hwl : ∀ i : Nat, (ws.getD i (Str.ofString "")).length ≤ 100) (hwy : way.length ≤ 100) (cl cr : Nat) (hcl : cl ≤ row.length) (hcr : cr ≤ row.length)
    (hpl : ∀ i : Nat, i < row.length → decide ((foundF ws way (row.getD i 0)).cps.toList < way.cps.toList) = decide (i < cl))
    (hpr : ∀ i : Nat, i < row.length → decide (way.cps.toList < (foundF ws way (row.getD i 0)).cps.toList) = decide (cr ≤ i)) (tab : Option ((Addr × Obj) × (Addr × Obj))) (htab : tabFP tab) :
  ∀ (dp un : Nat) (gd : Option (List Code)) (cn : PySem.Str) (cs : Scope) (a : Addr) (ccd : Value) (cl' : List (PySem.Str × Addr)) (outer : List Env) (A₀ : Around) (base h₀ : Heap) (L : Addr) (m : PySem.Str → Option Value) (news : List (Addr × Obj)) (s : Shared)
    (Q E : Value → Shared → Prop),
    Below A₀ base outer h₀ → Fr h₀ L s.heap m → (Mine.hd.heap_39 w.params).In h₀ → News h₀ L s.heap (tabF tab ++ news) → Top topProg lzz mean mg mb h₀ → cs.kind = .function → dp + 8 < recursionLimit → un + 64 < cLine →
    CodeHd h₀ 221 217 → (lr, listOf vr.toArray nr) ∈ news → (ly, listOf vy.toArray ny) ∈ news → (∀ p ∈ news, p.1 ≠ 217) → 
    (∀ lt t1 t2 tab' h' tk', tabFP (some tab') → Fr h₀ L h' m → News h₀ L h' ((lt, tupObj #[.int (cl : Nat) t1, .int (cr : Nat) t2]) :: (tabF (some tab') ++ news)) → (∀ p ∈ news, p.1 < lt) → Q (.ref lt) { s with heap := h', toks := tk' }) →
    wpAny (model Challenge.rw_ux0024_01.row.toRowW.prog w) (ktrTop dp un gd cn cs L a ccd cl' outer) (call (.ref 222) [.ref lr, .ref ly, .str way tw]) Q E s := by
  k_fill
  revert hr hy hsz hrr hws hwl hwy hcl hcr hpl hpr htab
  revert lzz w mean mg mb lr ly vr vy nr ny row ws way tw cl cr tab
  refine @pk12 _ _ _ _ _ _ _ _ _ _ _ _  ⟨default, (aWorld 0), default, default, default, default, default, default, default, default, default, default⟩ _ ?_; generalize pick12 _ _ = zz; generalize zz.1 = lzz; generalize zz.2.1 = w; generalize zz.2.2.1 = mean; generalize zz.2.2.2.1 = mg; generalize zz.2.2.2.2.1 = mb; generalize zz.2.2.2.2.2.1 = lr; generalize zz.2.2.2.2.2.2.1 = ly; generalize zz.2.2.2.2.2.2.2.1 = vr; generalize zz.2.2.2.2.2.2.2.2.1 = vy; generalize zz.2.2.2.2.2.2.2.2.2.1 = nr; generalize zz.2.2.2.2.2.2.2.2.2.2.1 = ny; generalize zz.2.2.2.2.2.2.2.2.2.2.2 = row; clear zz
  refine @pk6 _ _ _ _ _ _ inferInstance _ ?_; generalize pick6 _ _ = zz; generalize zz.1 = ws; generalize zz.2.1 = way; generalize zz.2.2.1 = tw; generalize zz.2.2.2.1 = cl; generalize zz.2.2.2.2.1 = cr; generalize zz.2.2.2.2.2 = tab; clear zz
  intro hr hy hsz hrr hws hwl hwy hcl hcr hpl hpr htab
  intro dp un gd cn cs a ccd cl' outer A₀ base h₀ L m news s Q E B F X N T hk hdp hu C hm1 hm2 h217 hret
  revert B F X N T hk hdp hu C hm1 hm2 h217 hret
  revert dp un gd cn cs a ccd cl' outer A₀ base h₀ L m news s Q E
  refine pk12 (o := ⟨default, default, default, default, default, default, default, default, default, callerA, default, default⟩) ?_; generalize pick12 _ _ = zz; generalize zz.1 = dp; generalize zz.2.1 = un; generalize zz.2.2.1 = gd; generalize zz.2.2.2.1 = cn; generalize zz.2.2.2.2.1 = cs; generalize zz.2.2.2.2.2.1 = a; generalize zz.2.2.2.2.2.2.1 = ccd; generalize zz.2.2.2.2.2.2.2.1 = cl'; generalize zz.2.2.2.2.2.2.2.2.1 = outer; generalize zz.2.2.2.2.2.2.2.2.2.1 = A₀; generalize zz.2.2.2.2.2.2.2.2.2.2.1 = base; generalize zz.2.2.2.2.2.2.2.2.2.2.2 = h₀; clear zz
  refine pk6 (o := ⟨default, default, default, ({} : Shared), default, default⟩) ?_; generalize pick6 _ _ = zz; generalize zz.1 = L; generalize zz.2.1 = m; generalize zz.2.2.1 = news; generalize zz.2.2.2.1 = s; generalize zz.2.2.2.2.1 = Q; generalize zz.2.2.2.2.2 = E; clear zz
  intro B F X N T hk hdp hu C hm1 hm2 h217 hret
  have hz := size_is
  cases tab with
  | none =>
    replace N := newsSub N ((217, tabObj #[]) :: news) (by intro p hp; simpa [tabF] using hp)
    refine wpAny_call ?_
    k_dflt walk_at "mine:own_enterC"
    (rename Fr h₀ L _ m => FG)
    have Cg := C.keeps FG.keep
    (rename 217 < _ ∧ AllLt _ news => hL)
    have n217 : @LT.lt Nat _ 217 _ := hL.1
    have hnL := lt_of_all hL.2
    (rename News _ _ _ _ => NA)
    (rename Fr _ _ _ _ => FA)
    obtain ⟨L1, hL1⟩ := frIs FA
    subst hL1
    obtain ⟨ow, how⟩ := headObj NA
    obtain ⟨oy, hoy⟩ := headObj2 NA
    subst how hoy
    (rename Obj.data ow = _ => dw0)
    (rename Obj.data oy = _ => dy0)
    have dw : ow.data = .cell (some (.str way tw)) := dw0
    have dy : oy.data = .cell (some (.ref ly)) := dy0
    clear dw0 dy0
    k_steps
    unfold Halt
    rename_i zv18 zv17 _ zv16 zv15 zv14 zv13 zv12 zv11 zv10 zv9 zv8 zv7 zv6 zv5 zv4 zv3 zv2 zv1 zv0
    revert FG zv16 zv15 zv14 Cg FA hL n217 hnL NA dw dy zv5 zv4 zv3 zv2 zv1 zv0
    revert zv18 zv17 L1 ow oy zv13 zv12 zv11 zv10 zv9 zv8 zv7 zv6
    refine pk12 ?_; generalize pick12 _ _ = zz; generalize zz.1 = zv18; generalize zz.2.1 = zv17; generalize zz.2.2.1 = L1; generalize zz.2.2.2.1 = ow; generalize zz.2.2.2.2.1 = oy; generalize zz.2.2.2.2.2.1 = zv13; generalize zz.2.2.2.2.2.2.1 = zv12; generalize zz.2.2.2.2.2.2.2.1 = zv11; generalize zz.2.2.2.2.2.2.2.2.1 = zv10; generalize zz.2.2.2.2.2.2.2.2.2.1 = zv9; generalize zz.2.2.2.2.2.2.2.2.2.2.1 = zv8; generalize zz.2.2.2.2.2.2.2.2.2.2.2 = zv7; clear zz
    refine pk1 ?_; generalize pick1 _ _ = zv6
    intro FG _ _ _ Cg FA hL n217 hnL NA dw dy _ _ _ _ _ _
    (rename News _ _ _ ((_, kla_obj _ _ _ _ _ _ _ _ _) :: _) => N4)
    (rename Fr _ _ _ _ => F4)
    obtain ⟨f1, hf1⟩ := headIs N4
    obtain ⟨c1, hc1⟩ := headIs2 N4
    subst hf1 hc1
    obtain ⟨o1, ho1⟩ := headObj2 N4
    subst ho1
    obtain ⟨ol1, hol1⟩ := headObj N4
    have hkey1 : KeyTells w mean mg mb lzz f1 [(f1, ol1), (c1, o1), (L1 + 1 + 1, ow), (L1 + 1, oy), (ly, listOf vy.toArray ny)] 7 (foundF ws way) := by
      subst hol1
      clear hret N4 F4 hu
      intro i ti hi0 hi7 dp un gd cn cs a ccd cl' outer A₀ base h₀ L m more s Q E B F X N hsub T hk hdp hu hret
      have m1 := hsub _ (.head _)
      have m2 := hsub _ (.tail _ (.head _))
      have m3 := hsub _ (.tail _ (.tail _ (.head _)))
      have m4 := hsub _ (.tail _ (.tail _ (.tail _ (.head _))))
      have m5 := hsub _ (.tail _ (.tail _ (.tail _ (.tail _ (.head _)))))
      refine wpAny_call ?_
      walk_at "mine:own_enterL"
      k_steps
      unfold Halt
      rename_i zv30 zv29 zv28 zv27 zv26 zv25 zv24 zv23 zv22 zv21 zv20 zv19
      revert zv30 zv29 zv28 hi0 hi7 B F X N hsub T hk hdp hu hret m1 m2 m3 m4 m5 zv24 zv23 zv22 zv21 zv20 zv19
      revert f1 c1 o1 i ti dp un gd cn cs a ccd cl' outer A₀ base h₀ L m more s Q E zv27 zv26 zv25 qk ek
      try walk_at "mine:z"
      refine pk12 ?_; generalize pick12 _ _ = zz; generalize zz.1 = f1; generalize zz.2.1 = c1; generalize zz.2.2.1 = o1; generalize zz.2.2.2.1 = i; generalize zz.2.2.2.2.1 = ti; generalize zz.2.2.2.2.2.1 = dp; generalize zz.2.2.2.2.2.2.1 = un; generalize zz.2.2.2.2.2.2.2.1 = gd; generalize zz.2.2.2.2.2.2.2.2.1 = cn; generalize zz.2.2.2.2.2.2.2.2.2.1 = cs; generalize zz.2.2.2.2.2.2.2.2.2.2.1 = a; generalize zz.2.2.2.2.2.2.2.2.2.2.2 = ccd; clear zz
      refine pk12 (o := ⟨default, default, callerA, default, default, default, default, default, ({} : Shared), default, default, default⟩) ?_; generalize pick12 _ _ = zz; generalize zz.1 = cl'; generalize zz.2.1 = outer; generalize zz.2.2.1 = A₀; generalize zz.2.2.2.1 = base; generalize zz.2.2.2.2.1 = h₀; generalize zz.2.2.2.2.2.1 = L; generalize zz.2.2.2.2.2.2.1 = m; generalize zz.2.2.2.2.2.2.2.1 = more; generalize zz.2.2.2.2.2.2.2.2.1 = s; generalize zz.2.2.2.2.2.2.2.2.2.1 = Q; generalize zz.2.2.2.2.2.2.2.2.2.2.1 = E; generalize zz.2.2.2.2.2.2.2.2.2.2.2 = zv27; clear zz
      refine pk2 ?_; generalize pick2 _ _ = zz; generalize zz.1 = zv26; generalize zz.2 = zv25; clear zz
      intro _ _ _ hi0 hi7 B F X N hsub T hk hdp hu hret m1 m2 m3 m4 m5 _ _ _ _ _ _
      try k_fold
      refine item_strs (by assumption) (by k_mem) hy (by (first | exact om90 hi0 | omega)) (by (first | exact om124 hws hi0 hi7 | omega)) (by (first | exact om92 hi0 hi7 | omega)) ?_ (by with_unfolding_all rfl)
      intro t5
      have hwi := hwl i.toNat
      k_steps
      unfold Halt
      rename_i zv35 zv34 zv33 zv32 zv31 _
      revert zv32 zv31
      revert zv35 zv34 zv33
      refine pk3 ?_; generalize pick3 _ _ = zz; generalize zz.1 = zv35; generalize zz.2.1 = zv34; generalize zz.2.2 = zv33; clear zz
      intro _ _
      refine q_tells w mean mg mb _ _ _ _ _ _ _ _ _ _ _ _ _ _ _ _ _ _ _ _ (by assumption) (by assumption) (by assumption) (by assumption) (by assumption) rfl (by show dp + 1 + 2 < _; (first | exact om93 hdp | omega)) (by show un + 3 + 16 < _; (first | exact om94 hu | omega)) ?_
      intro q d tk tx h2 tk2 F2 N2 r1 r2
      k_steps
      exact hret q d tk tx _ _ (by assumption) (by assumption) r1 r2
    subst hol1
    refine bisL_s w mean mg mb lr f1 vr row nr way tw (foundF ws way) cl _ _ _ _ hr hsz hrr hcl hpl _ _ _ _ _ _ _ _ _ _ _ _ _ _ _ _ _ _ (by assumption) (by assumption) (by assumption) (by assumption) (by assumption) rfl (by show dp + 1 + 5 < _; (first | exact om125 hdp | omega)) (by show un + 3 + 40 < _; (first | exact om126 hu | omega)) (by k_mem) (hkey1.mono (by intro p hp; simp only [List.mem_cons, List.not_mem_nil, or_false] at hp; rcases hp with rfl | rfl | rfl | rfl | rfl <;> k_mem)) (by k_mem) ?_
    intro t1 h5 tk5 F5 N5
    rename_i zv38 zv37 zv36
    revert zv38 zv37 zv36 N4 hkey1 F5 N5
    revert f1 c1 o1 t1 h5 tk5
    refine pk6 ?_; generalize pick6 _ _ = zz; generalize zz.1 = f1; generalize zz.2.1 = c1; generalize zz.2.2.1 = o1; generalize zz.2.2.2.1 = t1; generalize zz.2.2.2.2.1 = h5; generalize zz.2.2.2.2.2 = tk5; clear zz
    intro _ _ _ N4 hkey1 F5 N5
    k_steps
    unfold Halt
    rename_i zv52 zv51 zv50 zv49 zv48 zv47 zv46 zv45 zv44 zv43 zv42 zv41 zv40 zv39
    revert zv44 zv43 zv42 zv41 zv40 zv39
    revert zv52 zv51 zv50 zv49 zv48 zv47 zv46 zv45
    refine pk8 ?_; generalize pick8 _ _ = zz; generalize zz.1 = zv52; generalize zz.2.1 = zv51; generalize zz.2.2.1 = zv50; generalize zz.2.2.2.1 = zv49; generalize zz.2.2.2.2.1 = zv48; generalize zz.2.2.2.2.2.1 = zv47; generalize zz.2.2.2.2.2.2.1 = zv46; generalize zz.2.2.2.2.2.2.2 = zv45; clear zz
    intro _ _ _ _ _ _
    (rename News _ _ _ ((_, kla_obj _ _ _ _ _ _ _ _ _) :: _ :: (f1, _) :: _) => N6)
    (rename Fr _ _ _ _ => F6)
    obtain ⟨f2, hf2⟩ := headIs N6
    obtain ⟨c2, hc2⟩ := headIs2 N6
    subst hf2 hc2
    obtain ⟨o2, ho2⟩ := headObj2 N6
    subst ho2
    obtain ⟨ol2, hol2⟩ := headObj N6
    have hkey2 : KeyTells w mean mg mb lzz f2 [(f2, ol2), (c2, o2), (L1 + 1 + 1, ow), (L1 + 1, oy), (ly, listOf vy.toArray ny)] 7 (foundF ws way) := by
      subst hol2
      clear hret N6 F6 hu
      intro i ti hi0 hi7 dp un gd cn cs a ccd cl' outer A₀ base h₀ L m more s Q E B F X N hsub T hk hdp hu hret
      have m1 := hsub _ (.head _)
      have m2 := hsub _ (.tail _ (.head _))
      have m3 := hsub _ (.tail _ (.tail _ (.head _)))
      have m4 := hsub _ (.tail _ (.tail _ (.tail _ (.head _))))
      have m5 := hsub _ (.tail _ (.tail _ (.tail _ (.tail _ (.head _)))))
      refine wpAny_call ?_
      walk_at "mine:own_enterL"
      k_steps
      unfold Halt
      rename_i zv64 zv63 zv62 zv61 zv60 zv59 zv58 zv57 zv56 zv55 zv54 zv53
      revert zv64 zv63 zv62 hi0 hi7 B F X N hsub T hk hdp hu hret m1 m2 m3 m4 m5 zv58 zv57 zv56 zv55 zv54 zv53
      revert f2 c2 o2 i ti dp un gd cn cs a ccd cl' outer A₀ base h₀ L m more s Q E zv61 zv60 zv59 qk ek
      try walk_at "mine:z"
      refine pk12 ?_; generalize pick12 _ _ = zz; generalize zz.1 = f2; generalize zz.2.1 = c2; generalize zz.2.2.1 = o2; generalize zz.2.2.2.1 = i; generalize zz.2.2.2.2.1 = ti; generalize zz.2.2.2.2.2.1 = dp; generalize zz.2.2.2.2.2.2.1 = un; generalize zz.2.2.2.2.2.2.2.1 = gd; generalize zz.2.2.2.2.2.2.2.2.1 = cn; generalize zz.2.2.2.2.2.2.2.2.2.1 = cs; generalize zz.2.2.2.2.2.2.2.2.2.2.1 = a; generalize zz.2.2.2.2.2.2.2.2.2.2.2 = ccd; clear zz
      refine pk12 (o := ⟨default, default, callerA, default, default, default, default, default, ({} : Shared), default, default, default⟩) ?_; generalize pick12 _ _ = zz; generalize zz.1 = cl'; generalize zz.2.1 = outer; generalize zz.2.2.1 = A₀; generalize zz.2.2.2.1 = base; generalize zz.2.2.2.2.1 = h₀; generalize zz.2.2.2.2.2.1 = L; generalize zz.2.2.2.2.2.2.1 = m; generalize zz.2.2.2.2.2.2.2.1 = more; generalize zz.2.2.2.2.2.2.2.2.1 = s; generalize zz.2.2.2.2.2.2.2.2.2.1 = Q; generalize zz.2.2.2.2.2.2.2.2.2.2.1 = E; generalize zz.2.2.2.2.2.2.2.2.2.2.2 = zv61; clear zz
      refine pk2 ?_; generalize pick2 _ _ = zz; generalize zz.1 = zv60; generalize zz.2 = zv59; clear zz
      intro _ _ _ hi0 hi7 B F X N hsub T hk hdp hu hret m1 m2 m3 m4 m5 _ _ _ _ _ _
      try k_fold
      refine item_strs (by assumption) (by k_mem) hy (by (first | exact om90 hi0 | omega)) (by (first | exact om124 hws hi0 hi7 | omega)) (by (first | exact om92 hi0 hi7 | omega)) ?_ (by with_unfolding_all rfl)
      intro t5
      have hwi := hwl i.toNat
      k_steps
      unfold Halt
      rename_i zv69 zv68 zv67 zv66 zv65 _
      revert zv66 zv65
      revert zv69 zv68 zv67
      refine pk3 ?_; generalize pick3 _ _ = zz; generalize zz.1 = zv69; generalize zz.2.1 = zv68; generalize zz.2.2 = zv67; clear zz
      intro _ _
      refine q_tells w mean mg mb _ _ _ _ _ _ _ _ _ _ _ _ _ _ _ _ _ _ _ _ (by assumption) (by assumption) (by assumption) (by assumption) (by assumption) rfl (by show dp + 1 + 2 < _; (first | exact om93 hdp | omega)) (by show un + 3 + 16 < _; (first | exact om94 hu | omega)) ?_
      intro q d tk tx h2 tk2 F2 N2 r1 r2
      k_steps
      exact hret q d tk tx _ _ (by assumption) (by assumption) r1 r2
    subst hol2
    refine bisR_s w mean mg mb lr f2 vr row nr way tw (foundF ws way) cr _ _ _ _ hr hsz hrr hcr hpr _ _ _ _ _ _ _ _ _ _ _ _ _ _ _ _ _ _ (by assumption) (by assumption) (by assumption) (by assumption) (by assumption) rfl (by show dp + 1 + 5 < _; (first | exact om125 hdp | omega)) (by show un + 3 + 40 < _; (first | exact om126 hu | omega)) (by k_mem) (hkey2.mono (by intro p hp; simp only [List.mem_cons, List.not_mem_nil, or_false] at hp; rcases hp with rfl | rfl | rfl | rfl | rfl <;> k_mem)) (by k_mem) ?_
    intro t2 h7 tk7 F7 N7
    rename_i zv72 zv71 zv70
    revert zv72 zv71 zv70 N6 hkey2 F7 N7
    revert f2 c2 o2 t2 h7 tk7
    refine pk6 ?_; generalize pick6 _ _ = zz; generalize zz.1 = f2; generalize zz.2.1 = c2; generalize zz.2.2.1 = o2; generalize zz.2.2.2.1 = t2; generalize zz.2.2.2.2.1 = h7; generalize zz.2.2.2.2.2 = tk7; clear zz
    intro _ _ _ N6 hkey2 F7 N7
    k_steps
    (rename News h₀ L _ _ => kN)
    (rename f2 < _ ∧ _ => hlt)
    have kN2 := newsSub kN ((_, tupObj #[.int (cl : Nat) t1, .int (cr : Nat) t2]) :: (tabF (some ((c1, o1), (c2, o2))) ++ news)) (by dsimp only [tabF, List.cons_append, List.nil_append]; walk_at "mine:sub")
    exact hret _ t1 t2 ((c1, o1), (c2, o2)) _ _ ⟨⟨_, _, (by assumption), (by assumption)⟩, ⟨_, _, (by assumption), (by assumption)⟩⟩ (by assumption) kN2 (lt_of_all hlt.2.2.2.2.2.2.2)
  | some tab =>
    obtain ⟨⟨c1, o1⟩, ⟨c2, o2⟩⟩ := tab
    obtain ⟨⟨vs1, tt1, e1, e2⟩, ⟨vs2, tt2, e3, e4⟩⟩ := htab
    dsimp only at e1 e2 e3 e4
    replace N := newsSub N ((217, tabObj #[rawInt 257, rawInt 36, .ref c1, rawInt 258, rawInt 38, .ref c2]) :: (c1, o1) :: (c2, o2) :: news) (by intro p hp; simpa [tabF] using hp)
    refine wpAny_call ?_
    k_dflt walk_at "mine:own_enterC"
    (rename Fr h₀ L _ m => FG)
    have Cg := C.keeps FG.keep
    (rename News _ _ _ _ => NA)
    (rename Fr _ _ _ _ => FA)
    obtain ⟨L1, hL1⟩ := frIs FA
    subst hL1
    obtain ⟨ow, how⟩ := headObj NA
    obtain ⟨oy, hoy⟩ := headObj2 NA
    subst how hoy
    (rename Obj.data ow = _ => dw0)
    (rename Obj.data oy = _ => dy0)
    have dw : ow.data = .cell (some (.str way tw)) := dw0
    have dy : oy.data = .cell (some (.ref ly)) := dy0
    clear dw0 dy0
    k_steps
    unfold Halt
    rename_i zv85 zv84 _ zv83 zv82 zv81 zv80 zv79 zv78 zv77 zv76 zv75 zv74 zv73
    revert e1 e2 e3 e4 N FG zv83 zv82 zv81 Cg FA zv80 NA dw dy zv75 zv74 zv73
    revert c1 o1 c2 o2 vs1 tt1 vs2 tt2 zv85 zv84 L1 ow oy zv79 zv78 zv77 zv76
    refine pk12 ?_; generalize pick12 _ _ = zz; generalize zz.1 = c1; generalize zz.2.1 = o1; generalize zz.2.2.1 = c2; generalize zz.2.2.2.1 = o2; generalize zz.2.2.2.2.1 = vs1; generalize zz.2.2.2.2.2.1 = tt1; generalize zz.2.2.2.2.2.2.1 = vs2; generalize zz.2.2.2.2.2.2.2.1 = tt2; generalize zz.2.2.2.2.2.2.2.2.1 = zv85; generalize zz.2.2.2.2.2.2.2.2.2.1 = zv84; generalize zz.2.2.2.2.2.2.2.2.2.2.1 = L1; generalize zz.2.2.2.2.2.2.2.2.2.2.2 = ow; clear zz
    refine pk5 ?_; generalize pick5 _ _ = zz; generalize zz.1 = oy; generalize zz.2.1 = zv79; generalize zz.2.2.1 = zv78; generalize zz.2.2.2.1 = zv77; generalize zz.2.2.2.2 = zv76; clear zz
    intro e1 e2 e3 e4 N FG _ _ _ Cg FA _ NA dw dy _ _ _
    (rename News _ _ _ ((_, kla_obj _ _ _ _ _ _ _ _ _) :: _) => N4)
    (rename Fr _ _ _ _ => F4)
    obtain ⟨f1, hf1⟩ := headIs N4
    subst hf1
    obtain ⟨ol1, hol1⟩ := headObj N4
    have hkey1 : KeyTells w mean mg mb lzz f1 [(f1, ol1), (c1, o1), (L1 + 1 + 1, ow), (L1 + 1, oy), (ly, listOf vy.toArray ny)] 7 (foundF ws way) := by
      subst hol1
      clear hret N4 F4 hu
      intro i ti hi0 hi7 dp un gd cn cs a ccd cl' outer A₀ base h₀ L m more s Q E B F X N hsub T hk hdp hu hret
      have m1 := hsub _ (.head _)
      have m2 := hsub _ (.tail _ (.head _))
      have m3 := hsub _ (.tail _ (.tail _ (.head _)))
      have m4 := hsub _ (.tail _ (.tail _ (.tail _ (.head _))))
      have m5 := hsub _ (.tail _ (.tail _ (.tail _ (.tail _ (.head _)))))
      refine wpAny_call ?_
      walk_at "mine:own_enterL"
      k_steps
      unfold Halt
      rename_i zv95 zv94 zv93 zv92 zv91 zv90 zv89 zv88 zv87 zv86
      revert zv95 hi0 hi7 B F X N hsub T hk hdp hu hret m1 m2 m3 m4 m5 zv91 zv90 zv89 zv88 zv87 zv86
      revert f1 i ti dp un gd cn cs a ccd cl' outer A₀ base h₀ L m more s Q E zv94 zv93 zv92 qk ek
      try walk_at "mine:z"
      refine pk12 ?_; generalize pick12 _ _ = zz; generalize zz.1 = f1; generalize zz.2.1 = i; generalize zz.2.2.1 = ti; generalize zz.2.2.2.1 = dp; generalize zz.2.2.2.2.1 = un; generalize zz.2.2.2.2.2.1 = gd; generalize zz.2.2.2.2.2.2.1 = cn; generalize zz.2.2.2.2.2.2.2.1 = cs; generalize zz.2.2.2.2.2.2.2.2.1 = a; generalize zz.2.2.2.2.2.2.2.2.2.1 = ccd; generalize zz.2.2.2.2.2.2.2.2.2.2.1 = cl'; generalize zz.2.2.2.2.2.2.2.2.2.2.2 = outer; clear zz
      refine pk12 (o := ⟨callerA, default, default, default, default, default, ({} : Shared), default, default, default, default, default⟩) ?_; generalize pick12 _ _ = zz; generalize zz.1 = A₀; generalize zz.2.1 = base; generalize zz.2.2.1 = h₀; generalize zz.2.2.2.1 = L; generalize zz.2.2.2.2.1 = m; generalize zz.2.2.2.2.2.1 = more; generalize zz.2.2.2.2.2.2.1 = s; generalize zz.2.2.2.2.2.2.2.1 = Q; generalize zz.2.2.2.2.2.2.2.2.1 = E; generalize zz.2.2.2.2.2.2.2.2.2.1 = zv94; generalize zz.2.2.2.2.2.2.2.2.2.2.1 = zv93; generalize zz.2.2.2.2.2.2.2.2.2.2.2 = zv92; clear zz
      intro _ hi0 hi7 B F X N hsub T hk hdp hu hret m1 m2 m3 m4 m5 _ _ _ _ _ _
      try k_fold
      refine item_strs (by assumption) (by k_mem) hy (by (first | exact om90 hi0 | omega)) (by (first | exact om124 hws hi0 hi7 | omega)) (by (first | exact om92 hi0 hi7 | omega)) ?_ (by with_unfolding_all rfl)
      intro t5
      have hwi := hwl i.toNat
      k_steps
      unfold Halt
      rename_i zv100 zv99 zv98 zv97 zv96 _
      revert zv97 zv96
      revert zv100 zv99 zv98
      refine pk3 ?_; generalize pick3 _ _ = zz; generalize zz.1 = zv100; generalize zz.2.1 = zv99; generalize zz.2.2 = zv98; clear zz
      intro _ _
      refine q_tells w mean mg mb _ _ _ _ _ _ _ _ _ _ _ _ _ _ _ _ _ _ _ _ (by assumption) (by assumption) (by assumption) (by assumption) (by assumption) rfl (by show dp + 1 + 2 < _; (first | exact om93 hdp | omega)) (by show un + 3 + 16 < _; (first | exact om94 hu | omega)) ?_
      intro q d tk tx h2 tk2 F2 N2 r1 r2
      k_steps
      exact hret q d tk tx _ _ (by assumption) (by assumption) r1 r2
    subst hol1
    refine bisL_s w mean mg mb lr f1 vr row nr way tw (foundF ws way) cl _ _ _ _ hr hsz hrr hcl hpl _ _ _ _ _ _ _ _ _ _ _ _ _ _ _ _ _ _ (by assumption) (by assumption) (by assumption) (by assumption) (by assumption) rfl (by show dp + 1 + 5 < _; (first | exact om125 hdp | omega)) (by show un + 3 + 40 < _; (first | exact om126 hu | omega)) (by k_mem) (hkey1.mono (by intro p hp; simp only [List.mem_cons, List.not_mem_nil, or_false] at hp; rcases hp with rfl | rfl | rfl | rfl | rfl <;> k_mem)) (by k_mem) ?_
    intro t1 h5 tk5 F5 N5
    rename_i zv101
    revert N4 zv101 hkey1 F5 N5
    revert f1 t1 h5 tk5
    refine pk4 ?_; generalize pick4 _ _ = zz; generalize zz.1 = f1; generalize zz.2.1 = t1; generalize zz.2.2.1 = h5; generalize zz.2.2.2 = tk5; clear zz
    intro N4 _ hkey1 F5 N5
    k_steps
    unfold Halt
    rename_i zv108 zv107 zv106 zv105 zv104 zv103 zv102
    revert zv104 zv103 zv102
    revert zv108 zv107 zv106 zv105
    refine pk4 ?_; generalize pick4 _ _ = zz; generalize zz.1 = zv108; generalize zz.2.1 = zv107; generalize zz.2.2.1 = zv106; generalize zz.2.2.2 = zv105; clear zz
    intro _ _ _
    (rename News _ _ _ ((_, kla_obj _ _ _ _ _ _ _ _ _) :: (f1, _) :: _) => N6)
    (rename Fr _ _ _ _ => F6)
    obtain ⟨f2, hf2⟩ := headIs N6
    subst hf2
    obtain ⟨ol2, hol2⟩ := headObj N6
    have hkey2 : KeyTells w mean mg mb lzz f2 [(f2, ol2), (c2, o2), (L1 + 1 + 1, ow), (L1 + 1, oy), (ly, listOf vy.toArray ny)] 7 (foundF ws way) := by
      subst hol2
      clear hret N6 F6 hu
      intro i ti hi0 hi7 dp un gd cn cs a ccd cl' outer A₀ base h₀ L m more s Q E B F X N hsub T hk hdp hu hret
      have m1 := hsub _ (.head _)
      have m2 := hsub _ (.tail _ (.head _))
      have m3 := hsub _ (.tail _ (.tail _ (.head _)))
      have m4 := hsub _ (.tail _ (.tail _ (.tail _ (.head _))))
      have m5 := hsub _ (.tail _ (.tail _ (.tail _ (.tail _ (.head _)))))
      refine wpAny_call ?_
      walk_at "mine:own_enterL"
      k_steps
      unfold Halt
      rename_i zv118 zv117 zv116 zv115 zv114 zv113 zv112 zv111 zv110 zv109
      revert zv118 hi0 hi7 B F X N hsub T hk hdp hu hret m1 m2 m3 m4 m5 zv114 zv113 zv112 zv111 zv110 zv109
      revert f2 i ti dp un gd cn cs a ccd cl' outer A₀ base h₀ L m more s Q E zv117 zv116 zv115 qk ek
      try walk_at "mine:z"
      refine pk12 ?_; generalize pick12 _ _ = zz; generalize zz.1 = f2; generalize zz.2.1 = i; generalize zz.2.2.1 = ti; generalize zz.2.2.2.1 = dp; generalize zz.2.2.2.2.1 = un; generalize zz.2.2.2.2.2.1 = gd; generalize zz.2.2.2.2.2.2.1 = cn; generalize zz.2.2.2.2.2.2.2.1 = cs; generalize zz.2.2.2.2.2.2.2.2.1 = a; generalize zz.2.2.2.2.2.2.2.2.2.1 = ccd; generalize zz.2.2.2.2.2.2.2.2.2.2.1 = cl'; generalize zz.2.2.2.2.2.2.2.2.2.2.2 = outer; clear zz
      refine pk12 (o := ⟨callerA, default, default, default, default, default, ({} : Shared), default, default, default, default, default⟩) ?_; generalize pick12 _ _ = zz; generalize zz.1 = A₀; generalize zz.2.1 = base; generalize zz.2.2.1 = h₀; generalize zz.2.2.2.1 = L; generalize zz.2.2.2.2.1 = m; generalize zz.2.2.2.2.2.1 = more; generalize zz.2.2.2.2.2.2.1 = s; generalize zz.2.2.2.2.2.2.2.1 = Q; generalize zz.2.2.2.2.2.2.2.2.1 = E; generalize zz.2.2.2.2.2.2.2.2.2.1 = zv117; generalize zz.2.2.2.2.2.2.2.2.2.2.1 = zv116; generalize zz.2.2.2.2.2.2.2.2.2.2.2 = zv115; clear zz
      intro _ hi0 hi7 B F X N hsub T hk hdp hu hret m1 m2 m3 m4 m5 _ _ _ _ _ _
      try k_fold
      refine item_strs (by assumption) (by k_mem) hy (by (first | exact om90 hi0 | omega)) (by (first | exact om124 hws hi0 hi7 | omega)) (by (first | exact om92 hi0 hi7 | omega)) ?_ (by with_unfolding_all rfl)
      intro t5
      have hwi := hwl i.toNat
      k_steps
      unfold Halt
      rename_i zv123 zv122 zv121 zv120 zv119 _
      revert zv120 zv119
      revert zv123 zv122 zv121
      refine pk3 ?_; generalize pick3 _ _ = zz; generalize zz.1 = zv123; generalize zz.2.1 = zv122; generalize zz.2.2 = zv121; clear zz
      intro _ _
      refine q_tells w mean mg mb _ _ _ _ _ _ _ _ _ _ _ _ _ _ _ _ _ _ _ _ (by assumption) (by assumption) (by assumption) (by assumption) (by assumption) rfl (by show dp + 1 + 2 < _; (first | exact om93 hdp | omega)) (by show un + 3 + 16 < _; (first | exact om94 hu | omega)) ?_
      intro q d tk tx h2 tk2 F2 N2 r1 r2
      k_steps
      exact hret q d tk tx _ _ (by assumption) (by assumption) r1 r2
    subst hol2
    refine bisR_s w mean mg mb lr f2 vr row nr way tw (foundF ws way) cr _ _ _ _ hr hsz hrr hcr hpr _ _ _ _ _ _ _ _ _ _ _ _ _ _ _ _ _ _ (by assumption) (by assumption) (by assumption) (by assumption) (by assumption) rfl (by show dp + 1 + 5 < _; (first | exact om125 hdp | omega)) (by show un + 3 + 40 < _; (first | exact om126 hu | omega)) (by k_mem) (hkey2.mono (by intro p hp; simp only [List.mem_cons, List.not_mem_nil, or_false] at hp; rcases hp with rfl | rfl | rfl | rfl | rfl <;> k_mem)) (by k_mem) ?_
    intro t2 h7 tk7 F7 N7
    rename_i zv124
    revert N6 zv124 hkey2 F7 N7
    revert f2 t2 h7 tk7
    refine pk4 ?_; generalize pick4 _ _ = zz; generalize zz.1 = f2; generalize zz.2.1 = t2; generalize zz.2.2.1 = h7; generalize zz.2.2.2 = tk7; clear zz
    intro N6 _ hkey2 F7 N7
    k_steps
    (rename News h₀ L _ _ => kN)
    (rename f2 < _ ∧ _ => hlt)
    have kN2 := newsSub kN ((_, tupObj #[.int (cl : Nat) t1, .int (cr : Nat) t2]) :: (tabF (some ((c1, o1), (c2, o2))) ++ news)) (by dsimp only [tabF, List.cons_append, List.nil_append]; walk_at "mine:sub")
    exact hret _ t1 t2 ((c1, o1), (c2, o2)) _ _ ⟨⟨_, _, e1, e2⟩, ⟨_, _, e3, e4⟩⟩ (by assumption) kN2 (lt_of_all hlt.2.2.2.2.2.2.2)
end Mine
end

section
open PySem PySem.W PyProof.Rows PySem.Calls PySem.Spec
namespace Mine
section
variable {prog : Program} {w : World} {A : Around} {E : Value → Shared → Prop} {s : Shared} {env : Env} {h₀ : Heap} {x : PySem.Str} {body : List Stmt} {Q : Flow → Shared → Prop}
noncomputable def CEnd (h₀ : Heap) (L c I : Addr) (it : Obj) (J : (PySem.Str → Option Value) → List (Addr × Obj) → Prop) (s₁ s₂ : Shared) : Prop :=
  ∃ h' tk m' nx' oc' v', s₂ = { s₁ with heap := h', toks := tk } ∧ Fr h₀ L h' m' ∧ News h₀ L h' ((c, oc') :: (I, it) :: nx') ∧ oc'.data = .cell v' ∧ (∀ p ∈ nx', p.1 ≠ I ∧ p.1 ≠ c) ∧ J m' nx'
noncomputable def CPost (h₀ : Heap) (L c I : Addr) (it : Obj) (J : (PySem.Str → Option Value) → List (Addr × Obj) → Prop) (s₁ : Shared) (Q : Flow → Shared → Prop) (f : Flow) (s₂ : Shared) : Prop :=
  match f with
  | .ret v => Q (.ret v) s₂
  | .brk => Q .next s₂
  | _ => CEnd h₀ L c I it J s₁ s₂
theorem cell_loop {c I : Addr} {px : Pos} {fp : List Addr} {n : Nat} {Pv : Nat → Value → Prop} {St : Nat → Heap → Prop} {m : PySem.Str → Option Value} {nx : List (Addr × Obj)} {it : Obj} {oc : Obj} {v₀ : Option Value} {Pit : Obj → Prop}
    (J : Nat → (PySem.Str → Option Value) → List (Addr × Obj) → Prop) (W : Walks prog w A I fp [I] n Pv St) (hgo : ∀ v s' (Q' : Unit → Shared → Prop) E', (∃ i, St i s'.heap) → Q' () s' → wpAny (model prog w) A (letOwnedTupleGo (.Name x px) (.ref I) v) Q' E' s')
    (hk : env.scope.kind = .function) (hx : env.kindOf x = some .cell) (hc : env.cells.lookup x = some c) (hcI : c ≠ I) (hIL : I ≠ env.locals) (hIh : h₀.get? I = none) (hdI : ∀ i h, St i h → ∃ o, h.get? I = some o ∧ Pit o)
    (hfp : ∀ b ∈ fp, b = I ∨ ∃ o, ∀ i m nx, J i m nx → (b, o) ∈ nx)
    (F : Fr h₀ env.locals s.heap m) (N : News h₀ env.locals s.heap ((c, oc) :: (I, it) :: nx)) (hoc : oc.data = .cell v₀) (off : ∀ p ∈ nx, p.1 ≠ I ∧ p.1 ≠ c) (hst : St 0 s.heap) (hj : J 0 m nx)
    (turn : ∀ i v m₁ nx₁ h tk it₁ oc₁, Pit it₁ → Pv i v → i < n → J i m₁ nx₁ → oc₁.data = .cell (some v) → (∀ p ∈ nx₁, p.1 ≠ I ∧ p.1 ≠ c) → Fr h₀ env.locals h m₁ → News h₀ env.locals h ((c, oc₁) :: (I, it₁) :: nx₁) →
      wpAny (model prog w) A (execs body env) (CPost h₀ env.locals c I it₁ (J (i + 1)) { s with heap := h, toks := tk } Q) (notedBy (model prog w) A env fun e s' => cameBackBy (model prog w) A env E e s') { s with heap := h, toks := tk })
    (done : ∀ m₁ nx₁ h tk oc₁ v₁, J n m₁ nx₁ → oc₁.data = .cell v₁ → Fr h₀ env.locals h m₁ → News h₀ env.locals h ((c, oc₁) :: nx₁) → Q .next { s with heap := h, toks := tk }) :
    codeAny (model prog w) A (.forLoop (.Name x px) (.ref I) body [] env) (fun r s' => match r with | .ok f => Q f s' | .error e => cameBackBy (model prog w) A env E e s') s := by
  revert W hgo hk hx hc hcI hIL hIh hdI hfp F N hoc off hst hj turn done
  revert prog w A E s env h₀ x body Q c I px fp n Pv St m nx it oc v₀ Pit J
  refine @pk12 _ _ _ _ _ _ _ _ _ _ _ _  ⟨default, (aWorld 0), callerA, default, ({} : Shared), default, default, default, default, default, default, default⟩ _ ?_; generalize pick12 _ _ = zz; generalize zz.1 = prog; generalize zz.2.1 = w; generalize zz.2.2.1 = A; generalize zz.2.2.2.1 = E; generalize zz.2.2.2.2.1 = s; generalize zz.2.2.2.2.2.1 = env; generalize zz.2.2.2.2.2.2.1 = h₀; generalize zz.2.2.2.2.2.2.2.1 = x; generalize zz.2.2.2.2.2.2.2.2.1 = body; generalize zz.2.2.2.2.2.2.2.2.2.1 = Q; generalize zz.2.2.2.2.2.2.2.2.2.2.1 = c; generalize zz.2.2.2.2.2.2.2.2.2.2.2 = I; clear zz
  refine @pk12 _ _ _ _ _ _ _ _ _ _ _ _ inferInstance _ ?_; generalize pick12 _ _ = zz; generalize zz.1 = px; generalize zz.2.1 = fp; generalize zz.2.2.1 = n; generalize zz.2.2.2.1 = Pv; generalize zz.2.2.2.2.1 = St; generalize zz.2.2.2.2.2.1 = m; generalize zz.2.2.2.2.2.2.1 = nx; generalize zz.2.2.2.2.2.2.2.1 = it; generalize zz.2.2.2.2.2.2.2.2.1 = oc; generalize zz.2.2.2.2.2.2.2.2.2.1 = v₀; generalize zz.2.2.2.2.2.2.2.2.2.2.1 = Pit; generalize zz.2.2.2.2.2.2.2.2.2.2.2 = J; clear zz
  intro W hgo hk hx hc hcI hIL hIh hdI hfp F N hoc off hst hj turn done
  refine codeAny_forLoop_any (fun k s' => ∃ h' tk m' nx' it' oc' v' i, s' = { s with heap := h', toks := tk } ∧ Fr h₀ env.locals h' m' ∧ News h₀ env.locals h' ((c, oc') :: (I, it') :: nx') ∧ oc'.data = .cell v' ∧ (∀ p ∈ nx', p.1 ≠ I ∧ p.1 ≠ c) ∧
    St i h' ∧ J i m' nx' ∧ i ≤ n ∧ k = n + 1 - i) ?_ (n + 1) ⟨s.heap, s.toks, m, nx, it, oc, v₀, 0, rfl, F, N, hoc, off, hst, hj, Nat.zero_le _, rfl⟩
  rintro k s' ⟨h', tk, m', nx', it', oc', v', i, rfl, F', N', hoc', off', hst', hJ, hi, rfl⟩
  have up : ∀ {h₂ : Heap}, (∀ b o, b ∉ [I] → h'.get? b = some o → h₂.get? b = some o) → Fr h₀ env.locals h₂ m' := fun hk₂ =>
    ⟨F'.ns.at' fun o e => hk₂ _ o (by simp [Ne.symm hIL]) e, fun b o e => hk₂ b o (by intro hb; rw [List.mem_singleton.mp hb, hIh] at e; cases e) (F'.keep b o e), F'.above⟩
  rcases Nat.lt_or_ge i n with hlt | hge
  · refine W.item i _ _ _ hlt hst' fun v h₂ tk₂ hPv hst₂ hk₂ => ?_
    dsimp only at hk₂
    refine hgo v _ _ _ ⟨_, hst₂⟩ ?_
    obtain ⟨it₂, hit₂, hPit⟩ := hdI _ _ hst₂
    have F₂ := up hk₂
    have hc₂ : h₂.get? c = some oc' := hk₂ c oc' (by simp [hcI]) (N' _ (.head _)).1
    refine wpAny_assign_Name (wpAny_storeName_cell hk hx hc ⟨oc', hc₂, hoc'⟩ fun h₃ hv₃ hs₃ => ?_)
    replace hs₃ : Heap.SameBut c h₂ h₃ := hs₃
    obtain ⟨o₃, ho₃, hd₃⟩ := hv₃
    have hcn := (N' (c, oc') (.head _)).2
    have hcL : c ≠ env.locals := hcn.1
    have F₃ : Fr h₀ env.locals h₃ m' := ⟨F₂.ns.sameBut hs₃ (Ne.symm hcL), fun b o e => (hs₃.2 b (fun q => by rw [q] at e; rw [hcn.2] at e; cases e)).trans (F₂.keep b o e), F₂.above⟩
    have N₃ : News h₀ env.locals h₃ ((c, o₃) :: (I, it₂) :: nx') := by
      intro p hp
      rcases List.mem_cons.mp hp with rfl | hp
      · exact ⟨ho₃, hcn⟩
      rcases List.mem_cons.mp hp with rfl | hp
      · exact ⟨(hs₃.2 _ (Ne.symm hcI)).trans hit₂, hIL, hIh⟩
      · have z := N' p (.tail _ (.tail _ hp))
        have zo := off' p hp
        exact ⟨(hs₃.2 _ zo.2).trans (hk₂ _ _ (by simp [zo.1]) z.1), z.2⟩
    have fin : ∀ {s₃ : Shared}, CEnd h₀ env.locals c I it₂ (J (i + 1)) { s with heap := h₃, toks := tk₂ } s₃ → ∃ k', k' < n + 1 - i ∧ ∃ h' tk m' nx' it' oc' v' i, s₃ = { s with heap := h', toks := tk } ∧ Fr h₀ env.locals h' m' ∧ News h₀ env.locals h' ((c, oc') :: (I, it') :: nx') ∧ oc'.data = .cell v' ∧ (∀ p ∈ nx', p.1 ≠ I ∧ p.1 ≠ c) ∧
        St i h' ∧ J i m' nx' ∧ i ≤ n ∧ k' = n + 1 - i := by
      rintro s₃ ⟨h6, tk6, m6, nx6, oc6, v6, rfl, F6, N6, hd6, off6, J6⟩
      refine ⟨n + 1 - (i + 1), by (first | exact om273 hlt | omega), h6, tk6, m6, nx6, it₂, oc6, v6, i + 1, rfl, F6, N6, hd6, off6, ?_, J6, by (first | exact om274 hlt | omega), rfl⟩
      refine W.frame _ _ _ hst₂ fun b hb o e => ?_
      rcases hfp b hb with rfl | ⟨ob, hob⟩
      · rw [hit₂] at e; cases e
        exact (N6 _ (.tail _ (.head _))).1
      · have z := hob _ _ _ hJ
        have z2 := N₃ _ (.tail _ (.tail _ z))
        have zo := off' _ z
        have e2 : h₃.get? b = some o := (hs₃.2 _ zo.2).trans e
        have e3 := e2.symm.trans z2.1
        cases e3
        exact (N6 _ (.tail _ (.tail _ (hob _ _ _ J6)))).1
    refine wpAny_mono (turn i v m' nx' h₃ _ it₂ o₃ hPit hPv hlt hJ hd₃ off' F₃ N₃) (fun f s₃ hf => ?_) fun _ _ e => e
    cases f with
    | ret v => exact hf
    | brk => exact hf
    | next => exact fin hf
    | cont => exact fin hf
  · have hin : i = n := by (first | exact om275 hi hge | omega)
    subst hin
    refine W.done _ _ _ hst' fun h₂ tk₂ hk₂ => ?_
    dsimp only at hk₂
    refine wpAny_execs_nil ?_
    refine done m' nx' h₂ _ oc' v' hJ hoc' (up hk₂) fun p hp => ?_
    rcases List.mem_cons.mp hp with rfl | hp
    · exact ⟨hk₂ _ _ (by simp [hcI]) (N' _ (.head _)).1, (N' _ (.head _)).2⟩
    · have zo := off' p hp
      exact ⟨hk₂ _ _ (by simp [zo.1]) (N' _ (.tail _ (.tail _ hp))).1, (N' _ (.tail _ (.tail _ hp))).2⟩
end
end Mine
end

section
open PySem PySem.W PyProof.Rows PySem.Calls PySem.Spec
namespace Mine
/-- a row of the table: its name, whether it is the last child, whether it has children -/
abbrev TRow := PySem.Str × Bool × Bool
noncomputable def TabIn (news : List (Addr × Obj)) (lt : Addr) (tb : List TRow) : Prop :=
  ∃ (vt : List Value) (nt : Nat), (lt, listOf vt.toArray nt) ∈ news ∧ vt.length = tb.length ∧ ∀ (j : Nat) (r : TRow), tb[j]? = some r → ∃ a t, vt[j]? = some (.ref a) ∧ (a, tupObj #[.str r.1 t, .bool r.2.1, .bool r.2.2]) ∈ news
noncomputable def ListsIn (news : List (Addr × Obj)) (lp : Addr) (ps : List (List Int)) : Prop :=
  ∃ (vp : List Value) (np : Nat), (lp, listOf vp.toArray np) ∈ news ∧ vp.length = ps.length ∧ ∀ (j : Nat) (l : List Int), ps[j]? = some l → ∃ (a : Addr) (va : List Value) (na : Nat), vp[j]? = some (.ref a) ∧ (a, listOf va.toArray na) ∈ news ∧ IntsAre va l
theorem TabIn.mono {news news' : List (Addr × Obj)} {lt : Addr} {tb : List TRow} (h : TabIn news lt tb) (hs : ∀ p ∈ news, p ∈ news') : TabIn news' lt tb := by
  obtain ⟨vt, nt, h1, h2, h3⟩ := h
  refine ⟨vt, nt, hs _ h1, h2, fun j r hr => ?_⟩
  obtain ⟨a, t, h4, h5⟩ := h3 j r hr
  exact ⟨a, t, h4, hs _ h5⟩
theorem ListsIn.mono {news news' : List (Addr × Obj)} {lp : Addr} {ps : List (List Int)} (h : ListsIn news lp ps) (hs : ∀ p ∈ news, p ∈ news') : ListsIn news' lp ps := by
  obtain ⟨vt, nt, h1, h2, h3⟩ := h
  refine ⟨vt, nt, hs _ h1, h2, fun j r hr => ?_⟩
  obtain ⟨a, va, na, h4, h5, h6⟩ := h3 j r hr
  exact ⟨a, va, na, h4, hs _ h5, h6⟩
end Mine
end

section
open PySem PySem.W PyProof.Rows PySem.Calls PySem.Spec
namespace Mine
noncomputable def isTxt (y : PySem.Str) : Value → Bool
  | .str x _ => x == y
  | _ => false
theorem cps_eq {x y : PySem.Str} : (x.cps.toList == y.cps.toList) = true ↔ x = y := by
  cases x; cases y
  simp
section
variable {prog : Program} {w : World} {A : Around} {E : Value → Shared → Prop} {s : Shared} {l L : Addr} {h₀ : Heap} {news : List (Addr × Obj)} {n : Nat} {t : Tok} {Q : Value → Shared → Prop} {vs : List Value}
theorem idx_strs {ss : List PySem.Str} {y : PySem.Str} {j : Nat} (N : News h₀ L s.heap news) (hm : (l, listOf vs.toArray n) ∈ news) (hi : StrsAre vs ss) (hj : ss[j]? = some y) (hno : ∀ i, i < j → ss[i]? ≠ some y) (hsz : ss.length ≤ 1000)
    (h : Q (.int (j : Nat) s.toks) { s with toks := s.toks + 1 }) : wpAny (model prog w) A (call (.builtin "list.index") [.ref l, .str y t]) Q E s := by
  have hlen := strs_len hi
  have hjl : j < ss.length := by
    rcases Nat.lt_or_ge j ss.length with h | h
    · exact h
    · rw [List.getElem?_eq_none h] at hj; cases hj
  have at_ : ∀ {i : Nat} {hh : i < vs.length}, isTxt y vs[i] = (ss.getD i (Str.ofString "") == y) := by
    intro i hh
    obtain ⟨u, hu⟩ := strs_getD hi (i := i) (by (first | exact om276 hlen hh | omega))
    rw [List.getElem?_eq_getElem hh] at hu
    rw [Option.some.inj hu]
    rfl
  have gd : ∀ {i : Nat}, i < ss.length → ss[i]? = some (ss.getD i (Str.ofString "")) := by
    intro i hh
    rw [List.getD_eq_getElem?_getD, List.getElem?_eq_getElem hh]; rfl
  refine call_meets PySem.F.slot_list_index ⟨_, (N _ hm).1, rfl⟩ PySem.F.entry_list_index (PySem.F.args_list_index_2 _ _)
    (MeetsSeq.list_index l vs.toArray n (.str y t) (isTxt y) (fun v hv => ?_) j (by rw [List.size_toArray]; (first | exact om133 hlen hjl | omega)) (by (first | exact om277 hsz hlen hjl | omega)) ?_ ?_) ⟨(N _ hm).1, h⟩
  · obtain ⟨i, hh, rfl⟩ := List.getElem_of_mem (by simpa using hv)
    obtain ⟨u, hu⟩ := strs_getD hi (i := i) (by (first | exact om276 hlen hh | omega))
    rw [List.getElem?_eq_getElem hh] at hu
    rw [Option.some.inj hu]
    exact eqGives_str _ _ _ _
  · show isTxt y vs[j] = true
    rw [at_]
    have := gd hjl
    rw [hj] at this
    simpa using (Option.some.inj this).symm
  · intro i hi2 hlt
    show isTxt y vs[i] = false
    rw [at_]
    have h1 := gd (i := i) (by (first | exact om278 hlen hjl hlt | omega))
    have h2 := hno i hlt
    rw [h1] at h2
    simpa using h2
theorem idx_ints {ss : List Int} {y : Int} {j : Nat} (N : News h₀ L s.heap news) (hm : (l, listOf vs.toArray n) ∈ news) (hi : IntsAre vs ss) (hj : ss[j]? = some y) (hno : ∀ i, i < j → ss[i]? ≠ some y) (hsz : ss.length ≤ 1000)
    (h : Q (.int (j : Nat) s.toks) { s with toks := s.toks + 1 }) : wpAny (model prog w) A (call (.builtin "list.index") [.ref l, .int y t]) Q E s := by
  have hlen := ints_len hi
  have hjl : j < ss.length := by
    rcases Nat.lt_or_ge j ss.length with h | h
    · exact h
    · rw [List.getElem?_eq_none h] at hj; cases hj
  have at_ : ∀ {i : Nat} {hh : i < vs.length}, isInt y vs[i] = (ss.getD i 0 == y) := by
    intro i hh
    obtain ⟨u, hu⟩ := ints_getD hi (i := i) (by (first | exact om276 hlen hh | omega))
    rw [List.getElem?_eq_getElem hh] at hu
    rw [Option.some.inj hu]
    rfl
  have gd : ∀ {i : Nat}, i < ss.length → ss[i]? = some (ss.getD i 0) := by
    intro i hh
    rw [List.getD_eq_getElem?_getD, List.getElem?_eq_getElem hh]; rfl
  refine call_meets PySem.F.slot_list_index ⟨_, (N _ hm).1, rfl⟩ PySem.F.entry_list_index (PySem.F.args_list_index_2 _ _)
    (MeetsSeq.list_index l vs.toArray n (.int y t) (isInt y) (fun v hv => ?_) j (by rw [List.size_toArray]; (first | exact om133 hlen hjl | omega)) (by (first | exact om277 hsz hlen hjl | omega)) ?_ ?_) ⟨(N _ hm).1, h⟩
  · obtain ⟨i, hh, rfl⟩ := List.getElem_of_mem (by simpa using hv)
    obtain ⟨u, hu⟩ := ints_getD hi (i := i) (by (first | exact om276 hlen hh | omega))
    rw [List.getElem?_eq_getElem hh] at hu
    rw [Option.some.inj hu]
    exact MeetsSeq.EqGives.int _ _ _ _
  · show isInt y vs[j] = true
    rw [at_]
    have := gd hjl
    rw [hj] at this
    simpa using (Option.some.inj this).symm
  · intro i hi2 hlt
    show isInt y vs[i] = false
    rw [at_]
    have h1 := gd (i := i) (by (first | exact om278 hlen hjl hlt | omega))
    have h2 := hno i hlt
    rw [h1] at h2
    simpa using h2
end
end Mine
end

section
open PySem PySem.W PyProof.Rows PySem.Calls PySem.Spec
namespace Mine
theorem ints_at {vs : List Value} {ss : List Int} (h : IntsAre vs ss) {i : Nat} {y : Int} (e : ss[i]? = some y) : ∃ t, vs[i]? = some (.int y t) := by
  have hl : i < ss.length := by
    rcases Nat.lt_or_ge i ss.length with h | h
    · exact h
    · rw [List.getElem?_eq_none h] at e; cases e
  obtain ⟨t, ht⟩ := ints_getD h hl
  rw [List.getD_eq_getElem?_getD, e] at ht
  exact ⟨t, ht⟩
theorem lt_of_some {α : Type} {l : List α} {i : Nat} {y : α} (e : l[i]? = some y) : i < l.length := by
  rcases Nat.lt_or_ge i l.length with h | h
  · exact h
  · rw [List.getElem?_eq_none h] at e; cases e
noncomputable def growUp (G : Nat → PySem.Str) (line : PySem.Str) (b : Nat) : Nat → PySem.Str
  | 0 => line
  | i + 1 => growUp G line b i ++ G (b + i)
theorem growUp_len (G : Nat → PySem.Str) (line : PySem.Str) (b : Nat) {i j : Nat} (h : i ≤ j) : (growUp G line b i).length ≤ (growUp G line b j).length := by
  induction j with
  | zero => rw [Nat.le_zero.mp h]; exact Nat.le_refl _
  | succ j ih =>
    rcases Nat.lt_or_ge i (j + 1) with h2 | h2
    · have := ih (by (first | exact om279 h2 | omega))
      rw [growUp, Str.length_append]
      (first | exact om280 this | omega)
    · rw [Nat.le_antisymm h h2]; exact Nat.le_refl _
/-- what the table, the places and the begins tell of an inner entry -/
structure InnerAt (ks : List PySem.Str) (ps bs : List (List Int)) (G : Nat → PySem.Str) (rank : Nat → Nat) (k : Nat) (nm : PySem.Str) : Prop where
  mk ::
  all : ∃ (kd tn b e : Nat) (pl bl : List Int), ks[kd]? = some nm ∧ (∀ i, i < kd → ks[i]? ≠ some nm) ∧ ps[kd]? = some pl ∧ pl[tn]? = some (k : Int) ∧ (∀ i, i < tn → pl[i]? ≠ some (k : Int)) ∧ pl.length ≤ 8 ∧
    bs[kd]? = some bl ∧ bl[tn]? = some (b : Int) ∧ bl[tn + 1]? = some (e : Int) ∧ bl.length ≤ 8 ∧ b ≤ e ∧ e ≤ 7 ∧ (∀ o, b ≤ o → o < e → rank o < rank k) ∧ G k = growUp G (Str.ofString "(" ++ nm) b (e - b) ++ Str.ofString ")"
local macro_rules | `(tactic| k_mem) => `(tactic| first | assumption | (refine List.mem_cons_of_mem _ ?_; first | assumption | k_mem))
local macro_rules | `(tactic| walk_at "subscriptTail") => `(tactic| walk_at "mine:r6")
local macro_rules | `(tactic| walk_at "binaryOp Add str str") => `(tactic| (refine Halt.mk ?_))
local macro_rules | `(tactic| walk_at "pyIter ref") => `(tactic| (refine Halt.mk ?_))
local macro_rules | `(tactic| walk_at "call ref") => `(tactic| (refine Halt.mk ?_))
local macro_rules | `(tactic| walk_at "call builtin:list.index") => `(tactic| (refine Halt.mk ?_))
theorem grown_tells (w : World) (mean : ExcName → Option Value) (mg mb : PySem.Str → Option Value) (lt lk lp lb : Addr) (nk : Nat) (vk : List Value) (tb : List TRow) (ks : List PySem.Str) (ps bs : List (List Int)) (G : Nat → PySem.Str) (rank : Nat → Nat)
    (hks : StrsAre vk ks) (l1 : tb.length = 7) (l2 : ks.length ≤ 4) (l3 : ps.length ≤ 4) (l4 : bs.length ≤ 4) (hG : ∀ k, k < 7 → (G k).length ≤ 500)
    (hleaf : ∀ k nm la, tb[k]? = some (nm, la, false) → G k = Str.ofString "(" ++ nm ++ Str.ofString ")") (hin : ∀ k nm la, tb[k]? = some (nm, la, true) → InnerAt ks ps bs G rank k nm) :
  ∀ (f k : Nat) (tn : Tok), f ≤ 8 → k < 7 → rank k < f →
  ∀ (dp un : Nat) (gd : Option (List Code)) (cn : PySem.Str) (cs : Scope) (a : Addr) (ccd : Value) (cl : List (PySem.Str × Addr)) (outer : List Env) (A₀ : Around) (base h₀ : Heap) (L : Addr) (m : PySem.Str → Option Value) (news : List (Addr × Obj)) (s : Shared)
    (Q E : Value → Shared → Prop),
    Below A₀ base outer h₀ → Fr h₀ L s.heap m → (Mine.hd.heap_39 w.params).In h₀ → News h₀ L s.heap news → Top topProg lzz mean mg mb h₀ → cs.kind = .function → dp + f < recursionLimit → un + 8 * f < cLine →
    TabIn news lt tb → (lk, listOf vk.toArray nk) ∈ news → ListsIn news lp ps → ListsIn news lb bs →
    (∀ t h' tk', Fr h₀ L h' m → News h₀ L h' news → Q (.str (G k) t) { s with heap := h', toks := tk' }) →
    wpAny (model Challenge.rw_ux0024_01.row.toRowW.prog w) (ktrTop dp un gd cn cs L a ccd cl outer) (call (.ref 215) [.ref lt, .ref lk, .ref lp, .ref lb, .int (k : Nat) tn]) Q E s := by
  revert hks l1 l2 l3 l4 hG hleaf hin
  revert lzz w mean mg mb lt lk lp lb nk vk tb ks ps bs G rank
  refine @pk12 _ _ _ _ _ _ _ _ _ _ _ _  ⟨default, (aWorld 0), default, default, default, default, default, default, default, default, default, default⟩ _ ?_; generalize pick12 _ _ = zz; generalize zz.1 = lzz; generalize zz.2.1 = w; generalize zz.2.2.1 = mean; generalize zz.2.2.2.1 = mg; generalize zz.2.2.2.2.1 = mb; generalize zz.2.2.2.2.2.1 = lt; generalize zz.2.2.2.2.2.2.1 = lk; generalize zz.2.2.2.2.2.2.2.1 = lp; generalize zz.2.2.2.2.2.2.2.2.1 = lb; generalize zz.2.2.2.2.2.2.2.2.2.1 = nk; generalize zz.2.2.2.2.2.2.2.2.2.2.1 = vk; generalize zz.2.2.2.2.2.2.2.2.2.2.2 = tb; clear zz
  refine @pk5 _ _ _ _ _ inferInstance _ ?_; generalize pick5 _ _ = zz; generalize zz.1 = ks; generalize zz.2.1 = ps; generalize zz.2.2.1 = bs; generalize zz.2.2.2.1 = G; generalize zz.2.2.2.2 = rank; clear zz
  intro hks l1 l2 l3 l4 hG hleaf hin
  intro f
  revert f
  refine pk1 ?_; generalize pick1 _ _ = f
  induction f with
  | zero => intro k tn _ _ hk; (first | exact om281 hk | omega)
  | succ f ih =>
  intro k tn hf8 hk7 hrk
  revert ih hf8 hk7 hrk
  revert f k tn
  refine pk3 ?_; generalize pick3 _ _ = zz; generalize zz.1 = f; generalize zz.2.1 = k; generalize zz.2.2 = tn; clear zz
  intro ih hf8 hk7 hrk
  k_fill
  intro dp un gd cn cs a ccd cl outer A₀ base h₀ L m news s Q E B F X N T hkf hdp hu hT m2 hP hBs hret
  revert B F X N T hkf hdp hu hT m2 hP hBs hret
  revert dp un gd cn cs a ccd cl outer A₀ base h₀ L m news s Q E
  refine pk12 (o := ⟨default, default, default, default, default, default, default, default, default, callerA, default, default⟩) ?_; generalize pick12 _ _ = zz; generalize zz.1 = dp; generalize zz.2.1 = un; generalize zz.2.2.1 = gd; generalize zz.2.2.2.1 = cn; generalize zz.2.2.2.2.1 = cs; generalize zz.2.2.2.2.2.1 = a; generalize zz.2.2.2.2.2.2.1 = ccd; generalize zz.2.2.2.2.2.2.2.1 = cl; generalize zz.2.2.2.2.2.2.2.2.1 = outer; generalize zz.2.2.2.2.2.2.2.2.2.1 = A₀; generalize zz.2.2.2.2.2.2.2.2.2.2.1 = base; generalize zz.2.2.2.2.2.2.2.2.2.2.2 = h₀; clear zz
  refine pk6 (o := ⟨default, default, default, ({} : Shared), default, default⟩) ?_; generalize pick6 _ _ = zz; generalize zz.1 = L; generalize zz.2.1 = m; generalize zz.2.2.1 = news; generalize zz.2.2.2.1 = s; generalize zz.2.2.2.2.1 = Q; generalize zz.2.2.2.2.2 = E; clear zz
  intro B F X N T hkf hdp hu hT m2 hP hBs hret
  have e1 : (Str.ofString "(").length = 1 := by decide
  have e2 : (Str.ofString ")").length = 1 := by decide
  have hz := size_is
  have hGk := hG k hk7
  obtain ⟨vt, nt, mt, lvt, hrow⟩ := id hT
  obtain ⟨vp, np, mp, lvp, hpl⟩ := id hP
  obtain ⟨vb, nb, mb', lvb, hbl⟩ := id hBs
  obtain ⟨⟨nm, la, inn⟩, hr⟩ : ∃ r, tb[k]? = some r := ⟨_, List.getElem?_eq_getElem (by (first | exact om48 l1 hk7 | omega))⟩
  obtain ⟨ra, rt, hra, mra⟩ := hrow k _ hr
  dsimp only at mra
  have hnm : nm.length ≤ 500 := by
    cases inn with
    | false => have := hleaf k nm la hr; rw [this, Str.length_append, Str.length_append] at hGk; (first | exact om282 e1 e2 hGk | omega)
    | true =>
      obtain ⟨kd, tn2, b, e, pl, bl, _, _, _, _, _, _, _, _, _, _, _, _, _, hGe⟩ := (hin k nm la hr).all
      have h9 := growUp_len G (Str.ofString "(" ++ nm) b (Nat.zero_le (e - b))
      rw [hGe, Str.length_append] at hGk
      rw [growUp, Str.length_append] at h9
      (first | exact om283 e1 e2 hGk h9 | omega)
  refine wpAny_call ?_
  k_dflt cell_enter
  k_steps
  unfold Halt
  rename_i zv8 zv7 zv6 zv5 zv4 zv3 zv2 zv1 zv0
  revert zv5 zv4 zv3 zv2 zv1 zv0
  revert zv8 zv7 zv6 qk ek tk
  try walk_at "mine:z"
  refine pk4 ?_; generalize pick4 _ _ = zz; generalize zz.1 = zv8; generalize zz.2.1 = zv7; generalize zz.2.2.1 = zv6; generalize zz.2.2.2 = tk; clear zz
  intro _ _ _ _ _ _
  try k_fold
  (refine item_led (by assumption) (by k_mem) (by omega) (by omega) (by simpa using hra) ?_ (by with_unfolding_all rfl))
  k_steps
  unfold Halt
  revert mt lvt hrow hr hra mra hnm
  revert vt nt nm la inn ra rt
  refine pk7 ?_; generalize pick7 _ _ = zz; generalize zz.1 = vt; generalize zz.2.1 = nt; generalize zz.2.2.1 = nm; generalize zz.2.2.2.1 = la; generalize zz.2.2.2.2.1 = inn; generalize zz.2.2.2.2.2.1 = ra; generalize zz.2.2.2.2.2.2 = rt; clear zz
  intro mt lvt hrow hr hra mra hnm
  walk_at "mine:tup"
  k_steps
  unfold Halt
  
  refine PyProof.Rows.add_str ?_ (by rw [hz]; (first | exact om284 e1 hnm | omega))
  intro _ _
  k_steps
  unfold Halt
  rename_i zv12 _ zv11 zv10 zv9
  revert zv10 zv9
  revert zv12 zv11 tk
  refine pk3 ?_; generalize pick3 _ _ = zz; generalize zz.1 = zv12; generalize zz.2.1 = zv11; generalize zz.2.2 = tk; clear zz
  intro _ _
  (refine item_led (by assumption) (by k_mem) (by omega) (by omega) (by simpa using hra) ?_ (by with_unfolding_all rfl))
  k_steps
  unfold Halt
  
  walk_at "mine:tup"
  k_steps
  · unfold Halt
    (rename inn = true => hinn)
    subst hinn
    obtain ⟨kd, tn2, b, e, pl, bl, k1, k2, k3, k4, k5, k6, k7, k8, k9, k10, k11, k12, k13, k14⟩ := (hin k nm la hr).all
    have b1 := lt_of_some k1
    have b3 := lt_of_some k3
    have b4 := lt_of_some k4
    have b7 := lt_of_some k7
    obtain ⟨pa, va, na, hpa, mpa, ipa⟩ := hpl kd pl k3
    obtain ⟨ba, vb2, nb2, hba, mba, iba⟩ := hbl kd bl k7
    obtain ⟨tb1, hvb1⟩ := ints_at iba k8
    obtain ⟨tb2, hvb2⟩ := ints_at iba k9
    (refine item_led (by assumption) (by k_mem) (by omega) (by omega) (by simpa using hra) ?_ (by with_unfolding_all rfl))
    k_steps
    unfold Halt
    revert tk
    refine pk1 ?_; generalize pick1 _ _ = tk
    walk_at "mine:tup"
    k_steps
    unfold Halt
    
    refine idx_strs (by assumption) (by k_mem) hks k1 k2 (by (first | exact om285 l2 | omega)) ?_
    k_steps
    unfold Halt
    rename_i zv15 zv14 zv13
    revert mp lvp hpl mb' lvb hbl k1 k2 k3 k4 k5 k6 k7 k8 k9 k10 k11 k12 k13 k14 b1 b3 b4 b7 hpa mpa ipa hba mba iba hvb1 hvb2 zv14 zv13
    revert vp np vb nb kd tn2 b e pl bl pa va na ba vb2 nb2 tb1 tb2 zv15 tk
    refine pk12 ?_; generalize pick12 _ _ = zz; generalize zz.1 = vp; generalize zz.2.1 = np; generalize zz.2.2.1 = vb; generalize zz.2.2.2.1 = nb; generalize zz.2.2.2.2.1 = kd; generalize zz.2.2.2.2.2.1 = tn2; generalize zz.2.2.2.2.2.2.1 = b; generalize zz.2.2.2.2.2.2.2.1 = e; generalize zz.2.2.2.2.2.2.2.2.1 = pl; generalize zz.2.2.2.2.2.2.2.2.2.1 = bl; generalize zz.2.2.2.2.2.2.2.2.2.2.1 = pa; generalize zz.2.2.2.2.2.2.2.2.2.2.2 = va; clear zz
    refine pk8 ?_; generalize pick8 _ _ = zz; generalize zz.1 = na; generalize zz.2.1 = ba; generalize zz.2.2.1 = vb2; generalize zz.2.2.2.1 = nb2; generalize zz.2.2.2.2.1 = tb1; generalize zz.2.2.2.2.2.1 = tb2; generalize zz.2.2.2.2.2.2.1 = zv15; generalize zz.2.2.2.2.2.2.2 = tk; clear zz
    intro mp lvp hpl mb' lvb hbl k1 k2 k3 k4 k5 k6 k7 k8 k9 k10 k11 k12 k13 k14 b1 b3 b4 b7 hpa mpa ipa hba mba iba hvb1 hvb2 _ _
    (refine item_led (by assumption) (by k_mem) (by omega) (by omega) (by simpa using hpa) ?_ (by with_unfolding_all rfl))
    k_steps
    unfold Halt
    
    refine idx_ints (by assumption) (by k_mem) ipa k4 k5 (by (first | exact om286 k6 | omega)) ?_
    k_steps
    unfold Halt
    rename_i zv18 zv17 zv16
    revert zv17 zv16
    revert zv18 tk
    refine pk2 ?_; generalize pick2 _ _ = zz; generalize zz.1 = zv18; generalize zz.2 = tk; clear zz
    intro _ _
    (refine item_led (by assumption) (by k_mem) (by omega) (by omega) (by simpa using hba) ?_ (by with_unfolding_all rfl))
    k_steps
    unfold Halt
    
    (refine item_led (by assumption) (by k_mem) (by omega) (by omega) (by simpa using hvb1) ?_ (by with_unfolding_all rfl))
    k_steps
    unfold Halt
    
    (refine item_led (by assumption) (by k_mem) (by omega) (by omega) (by simpa using hba) ?_ (by with_unfolding_all rfl))
    k_steps
    unfold Halt
    
    (refine item_led (by assumption) (by k_mem) (by omega) (by omega) (by simpa using hvb2) ?_ (by with_unfolding_all rfl))
    k_steps
    unfold Halt
    rename_i zv27 zv26 zv25 zv24 zv23 zv22 zv21 zv20 zv19
    revert zv22 zv21 zv20 zv19
    revert zv27 zv26 zv25 zv24 zv23
    refine pk5 ?_; generalize pick5 _ _ = zz; generalize zz.1 = zv27; generalize zz.2.1 = zv26; generalize zz.2.2.1 = zv25; generalize zz.2.2.2.1 = zv24; generalize zz.2.2.2.2 = zv23; clear zz
    intro _ _ _ _
    have hcat := hG k hk7
    rw [k14, Str.length_append] at hcat
    have hpre : ∀ i, i ≤ e - b → (growUp G (Str.ofString "(" ++ nm) b i).length ≤ 499 := fun i hi => by
      have := growUp_len G (Str.ofString "(" ++ nm) b hi
      (first | exact om287 e2 hcat this | omega)
    refine rng_st (e - b) (σ := PySem.Str × Tok) (fun _ => news) (fun c => [(Str.ofString "line", .str c.1 c.2)]) [] (fun i c => c.1 = growUp G (Str.ofString "(" ++ nm) b i) (_, _) rfl (by assumption) (range_small (by (first | exact om32 | omega)) (by (first | exact om33 k11 k12 | omega)) (by (first | exact om34 k12 | omega)) (by (first | exact om35 k12 | omega))) (range_size (by (first | exact om36 k11 | omega))) (by assumption) (by assumption) (List.forall_mem_cons.mpr ⟨rfl, List.forall_mem_nil _⟩) rfl ?_ ?_
    · intro I i c t u h tk hi hc off F1 N1
      revert hi hc off F1 N1
      revert I i c t u h tk
      refine pk7 ?_; generalize pick7 _ _ = zz; generalize zz.1 = I; generalize zz.2.1 = i; generalize zz.2.2.1 = c; generalize zz.2.2.2.1 = t; generalize zz.2.2.2.2.1 = u; generalize zz.2.2.2.2.2.1 = h; generalize zz.2.2.2.2.2.2 = tk; clear zz
      intro hi hc off F1 N1
      obtain ⟨line, tl⟩ := c
      dsimp only [kstB] at hc F1 N1 off
      simp only [List.contains_nil, Bool.false_eq_true, if_false] at F1
      subst hc
      k_steps
      unfold Halt
      revert F1
      revert tl
      refine pk1 ?_; generalize pick1 _ _ = tl
      intro F1
      refine ih (b + i) _ (by (first | exact om288 hf8 | omega)) (by (first | exact om289 k11 k12 hi | omega)) (by have := k13 (b + i) (by (first | exact om290 | omega)) (by (first | exact om291 k11 hi | omega)); (first | exact om166 hrk this | omega)) _ _ _ _ _ _ _ _ _ _ _ _ _ _ _ _ _ _ (by assumption) (by assumption) (by assumption) (by assumption) (by assumption) rfl (by show dp + 1 + f < _; (first | exact om218 hdp | omega)) (by show un + 3 + 8 * f < _; (first | exact om219 hu | omega)) (hT.mono fun p hp => by k_mem) (by k_mem) (hP.mono fun p hp => by k_mem) (hBs.mono fun p hp => by k_mem) ?_
      intro t' h' tk' F2 N2
      revert F2 N2
      revert t' h' tk'
      refine pk3 ?_; generalize pick3 _ _ = zz; generalize zz.1 = t'; generalize zz.2.1 = h'; generalize zz.2.2 = tk'; clear zz
      intro F2 N2
      k_steps
      unfold Halt
      
      have b6 := hpre (i + 1) (by (first | exact om292 hi | omega))
      rw [growUp, Str.length_append] at b6
      refine PyProof.Rows.add_str ?_ (by rw [hz]; (first | exact om293 b6 | omega))
      intro _ _
      k_steps
      refine UnrEnd.st (_, _) (by assumption) (by assumption) off (by k_mem) (fun p hp => List.mem_cons_of_mem _ hp) rfl (List.forall_mem_cons.mpr ⟨rfl, List.forall_mem_nil _⟩) ?_
      intro z z1 z2 _
      have z4 := z2 _ (List.mem_cons_self ..)
      simp [z1, z4]
    · intro c u h tk hc F1 N1
      revert hc F1 N1
      revert c u h tk
      refine pk4 ?_; generalize pick4 _ _ = zz; generalize zz.1 = c; generalize zz.2.1 = u; generalize zz.2.2.1 = h; generalize zz.2.2.2 = tk; clear zz
      intro hc F1 N1
      obtain ⟨line, tl⟩ := c
      dsimp only [kstB] at hc F1 N1 ⊢
      simp only [List.contains_nil, Bool.false_eq_true, if_false] at F1
      subst hc
      k_steps
      unfold Halt
      revert F1
      revert tl
      refine pk1 ?_; generalize pick1 _ _ = tl
      intro F1
      dsimp only
      have b6 := hpre (e - b) (Nat.le_refl _)
      refine PyProof.Rows.add_str ?_ (by rw [hz]; (first | exact om294 e2 hcat | omega))
      intro _ _
      k_steps
      rw [k14] at hret
      exact hret _ _ _ (by assumption) (by assumption)
  · unfold Halt
    (rename inn = false => hinn)
    subst hinn
    refine PyProof.Rows.add_str ?_ (by rw [hz, Str.length_append]; (first | exact om295 e1 e2 hnm | omega))
    intro _ _
    k_steps
    rw [hleaf k nm la hr] at hret
    exact hret _ _ _ (by assumption) (by assumption)
end Mine
end

section
open PySem PySem.W PyProof.Rows PySem.Calls PySem.Spec
namespace Mine
section
variable {prog : Program} {w : World} {A : Around} {E : Value → Shared → Prop} {s : Shared} {env : Env} {h₀ : Heap} {x : PySem.Str} {body : List Stmt} {Q : Flow → Shared → Prop} {σ : Type}
theorem fr_size {h : Heap} {L : Addr} {m : PySem.Str → Option Value} (F : Fr h₀ L h m) : h₀.get? h.objs.size = none := by
  have h1 : @LE.le Nat _ h₀.objs.size L := F.above
  have h2 : @LT.lt Nat _ L h.objs.size := F.ns.lt
  exact Heap.get?_none_of_le (Nat.le_trans h1 (Nat.le_of_lt h2))
/-- a loop over a list that stands still, whose target is a cell variable, by a state -/
theorem cell_lst {c ax : Addr} {px : Pos} {lo oc : Obj} {v₀ : Option Value} {vs : List Value} {n : Nat} {m₀ : PySem.Str → Option Value} (Led : σ → List (Addr × Obj)) (ps : σ → List (PySem.Str × Value)) (stored : List PySem.Str) (P : Nat → σ → Prop) (c₀ : σ)
    (hh : A.handled = none) (hc : lo.cls = .type "list") (hd : lo.data = .seq vs.toArray n) (hm : ∀ c, (ax, lo) ∈ Led c) (hk : env.scope.kind = .function) (hx : env.kindOf x = some .cell) (hcl : env.cells.lookup x = some c)
    (F : Fr h₀ env.locals s.heap m₀) (N : News h₀ env.locals s.heap ((c, oc) :: Led c₀)) (hoc : oc.data = .cell v₀) (off : ∀ p ∈ Led c₀, p.1 ≠ c)
    (hks : ∀ p ∈ ps c₀, m₀ p.1 = some p.2) (hp : P 0 c₀)
    (turn : ∀ (I : Addr) (it oc₁ : Obj) (i : Nat) (cs : σ) (v : Value) (u : PySem.Str → Option Value) h tk, vs[i]? = some v → P i cs → oc₁.data = .cell (some v) → (∀ p ∈ Led cs, p.1 ≠ I ∧ p.1 ≠ c) → c ≠ I →
      Fr h₀ env.locals h (fun y => if y = x then u y else kstB (fun z => if stored.contains z then u z else m₀ z) (ps cs) y) → News h₀ env.locals h ((c, oc₁) :: (I, it) :: Led cs) →
      wpAny (model prog w) A (execs body env) (CPost h₀ env.locals c I it (Kept Led ps x stored m₀ (P (i + 1))) { s with heap := h, toks := tk } Q) (notedBy (model prog w) A env fun e s' => cameBackBy (model prog w) A env E e s') { s with heap := h, toks := tk })
    (done : ∀ (cs : σ) (u : PySem.Str → Option Value) h tk oc₁ v₁, P vs.length cs → oc₁.data = .cell v₁ → Fr h₀ env.locals h (fun y => if y = x then u y else kstB (fun z => if stored.contains z then u z else m₀ z) (ps cs) y) → News h₀ env.locals h ((c, oc₁) :: Led cs) → Q .next { s with heap := h, toks := tk }) :
    wpAny (model prog w) A (pyIter (.ref ax)) (fun it s₂ => codeAny (model prog w) A (.forLoop (.Name x px) it body [] env) (fun r s' => match r with | .ok f => Q f s' | .error e => cameBackBy (model prog w) A env E e s') s₂) E s := by
  have hax := N (ax, lo) (.tail _ (hm c₀))
  have hl : s.heap.IsList ax vs.toArray := ⟨lo, hax.1, hc, n, hd⟩
  refine wpAny_pyIter_list hl ?_
  have up : ∀ b o, s.heap.get? b = some o → (s.heap.push { cls := .type "list_iterator", data := .fields #[.ref ax, .int 0 0] }).get? b = some o := fun b o e => Heap.get?_push_of_some _ e
  have lt : ∀ b o, s.heap.get? b = some o → @LT.lt Nat _ b s.heap.objs.size := fun b o e => Heap.lt_size e
  have axlt := lt _ _ hax.1
  refine cell_loop (s := { s with heap := s.heap.push { cls := .type "list_iterator", data := .fields #[.ref ax, .int 0 0] } }) (c := c) (I := s.heap.objs.size) (nx := Led c₀) (it := { cls := .type "list_iterator", data := .fields #[.ref ax, .int 0 0] }) (oc := oc) (v₀ := v₀) (Pit := fun _ => True)
    (fun i m nx => Kept Led ps x stored m₀ (P i) m nx) (Walks.list hh s.heap.objs.size ax (Nat.ne_of_lt axlt) vs.toArray) ?hgo hk hx hcl ?hcI ?hIL ?hIh ?hdI ?hfp (F.keeps up) ?N hoc ?off ?hst ⟨c₀, rfl, hp, hks, fun _ _ _ _ => rfl⟩ ?turn ?done
  case hgo =>
    intro v s' Q' E' _ hq
    exact wpAny_pure hq
  case hcI => exact Nat.ne_of_lt (lt _ _ (N _ (.head _)).1)
  case hIL => exact Nat.ne_of_gt F.ns.lt
  case hIh => exact fr_size F
  case hdI => intro i h st; obtain ⟨o, e, _⟩ := st.1; exact ⟨o, e, trivial⟩
  case hfp =>
    intro b hb
    rcases List.mem_cons.mp hb with rfl | hb
    · exact .inl rfl
    · rw [List.mem_singleton.mp hb]
      refine .inr ⟨lo, fun i m nx hJ => ?_⟩
      obtain ⟨cs, rfl, _⟩ := hJ
      exact hm cs
  case N =>
    intro p hp
    rcases List.mem_cons.mp hp with rfl | hp
    · exact ⟨up _ _ (N _ (.head _)).1, (N _ (.head _)).2⟩
    rcases List.mem_cons.mp hp with rfl | hp
    · exact ⟨Heap.get?_push_size _ rfl, Nat.ne_of_gt F.ns.lt, fr_size F⟩
    · exact ⟨up _ _ (N _ (.tail _ hp)).1, (N _ (.tail _ hp)).2⟩
  case off => exact fun p hp => ⟨Nat.ne_of_lt (lt _ _ (N _ (.tail _ hp)).1), off p hp⟩
  case hst => exact ⟨⟨_, Heap.get?_push_size _ rfl, rfl, rfl⟩, hl.push _⟩
  case turn =>
    rintro i v m₁ nx₁ h tk it₁ oc₁ _ hv hi ⟨cs, rfl, hp', h1, h2⟩ hd₁ off₁ F₁ N₁
    exact turn _ it₁ oc₁ i cs v m₁ h tk (by simpa using hv) hp' hd₁ off₁ (Nat.ne_of_lt (lt _ _ (N _ (.head _)).1)) (kst_frOut h1 h2 F₁) N₁
  case done =>
    rintro m₁ nx₁ h tk oc₁ v₁ ⟨cs, rfl, hp', h1, h2⟩ hd₁ F₁ N₁
    exact done cs m₁ h tk oc₁ v₁ (by simpa using hp') hd₁ (kst_frOut h1 h2 F₁) N₁
theorem CEnd.st {Led : σ → List (Addr × Obj)} {ps : σ → List (PySem.Str × Value)} {stored : List PySem.Str} {P : σ → Prop} {m₀ : PySem.Str → Option Value} {L c I : Addr} {it oc' : Obj} {v' : Option Value} {s₁ : Shared} {h' : Heap} {tk : Nat} {m' : PySem.Str → Option Value} {all : List (Addr × Obj)} (cs : σ) (F : Fr h₀ L h' m') (N : News h₀ L h' all)
    (hc : (c, oc') ∈ all) (hoc : oc'.data = .cell v') (off : ∀ p ∈ Led cs, p.1 ≠ I ∧ p.1 ≠ c) (hI : (I, it) ∈ all) (hs : ∀ p ∈ Led cs, p ∈ all) (hp : P cs) (h1 : ∀ p ∈ ps cs, m' p.1 = some p.2) (h2 : ∀ z, z ≠ x → (∀ p ∈ ps cs, z ≠ p.1) → stored.contains z = false → m' z = m₀ z) :
    CEnd h₀ L c I it (Kept Led ps x stored m₀ P) s₁ { s₁ with heap := h', toks := tk } :=
  ⟨h', tk, m', Led cs, oc', v', rfl, F, fun p hp => by
    rcases List.mem_cons.mp hp with rfl | hp
    · exact N _ hc
    rcases List.mem_cons.mp hp with rfl | hp
    · exact N _ hI
    · exact N _ (hs p hp), hoc, off, cs, rfl, hp, h1, h2⟩
end
end Mine
end

section
open PySem PySem.W PyProof.Rows PySem.Calls PySem.Spec
namespace Mine
section
variable {prog : Program} {w : World} {A : Around} {E : Value → Shared → Prop} {s : Shared} {env : Env} {h₀ : Heap} {x : PySem.Str} {body : List Stmt} {Q : Flow → Shared → Prop} {σ : Type}
/-- a loop over a range whose target is a cell variable, by a state -/
theorem cell_rng {c r : Addr} {px : Pos} {oc : Obj} {v₀ : Option Value} {a b : Int} {t₀ u₀ w₀ : Tok} {m₀ : PySem.Str → Option Value} (n : Nat) (Led : σ → List (Addr × Obj)) (ps : σ → List (PySem.Str × Value)) (stored : List PySem.Str) (P : Nat → σ → Prop) (c₀ : σ)
    (hh : A.handled = none) (hr : IsRange s.heap r a b 1 t₀ u₀ w₀) (hsmall : Builtin.Range.small a b 1 = true) (hn : Builtin.Range.rangeSize a b 1 = (n : Int)) (hk : env.scope.kind = .function) (hx : env.kindOf x = some .cell) (hcl : env.cells.lookup x = some c)
    (F : Fr h₀ env.locals s.heap m₀) (N : News h₀ env.locals s.heap ((c, oc) :: Led c₀)) (hoc : oc.data = .cell v₀) (off : ∀ p ∈ Led c₀, p.1 ≠ c)
    (hks : ∀ p ∈ ps c₀, m₀ p.1 = some p.2) (hp : P 0 c₀)
    (turn : ∀ (I : Addr) (it oc₁ : Obj) (i : Nat) (cs : σ) (t : Tok) (u : PySem.Str → Option Value) h tk, (∃ x l, it.data = .fields #[rawInt x, rawInt l, rawInt 1]) → i < n → P i cs → oc₁.data = .cell (some (.int (a + (i : Int)) t)) → (∀ p ∈ Led cs, p.1 ≠ I ∧ p.1 ≠ c) → c ≠ I →
      Fr h₀ env.locals h (fun y => if y = x then u y else kstB (fun z => if stored.contains z then u z else m₀ z) (ps cs) y) → News h₀ env.locals h ((c, oc₁) :: (I, it) :: Led cs) →
      wpAny (model prog w) A (execs body env) (CPost h₀ env.locals c I it (Kept Led ps x stored m₀ (P (i + 1))) { s with heap := h, toks := tk } Q) (notedBy (model prog w) A env fun e s' => cameBackBy (model prog w) A env E e s') { s with heap := h, toks := tk })
    (done : ∀ (cs : σ) (u : PySem.Str → Option Value) h tk oc₁ v₁, P n cs → oc₁.data = .cell v₁ → Fr h₀ env.locals h (fun y => if y = x then u y else kstB (fun z => if stored.contains z then u z else m₀ z) (ps cs) y) → News h₀ env.locals h ((c, oc₁) :: Led cs) → Q .next { s with heap := h, toks := tk }) :
    wpAny (model prog w) A (pyIter (.ref r)) (fun it s₂ => codeAny (model prog w) A (.forLoop (.Name x px) it body [] env) (fun r s' => match r with | .ok f => Q f s' | .error e => cameBackBy (model prog w) A env E e s') s₂) E s := by
  refine wpAny_pyIter_range hr hsmall ?_
  have lt : ∀ b o, s.heap.get? b = some o → @LT.lt Nat _ b s.heap.objs.size := fun b o e => Heap.lt_size e
  generalize hit : ({ cls := .type "range_iterator", data := .fields #[rawInt a, rawInt (Builtin.Range.rangeSize a b 1), rawInt 1] } : Obj) = itO
  have up : ∀ b o, s.heap.get? b = some o → (s.heap.push itO).get? b = some o := fun b o e => Heap.get?_push_of_some _ e
  subst hit
  refine cell_loop (s := { s with heap := s.heap.push _ }) (c := c) (I := s.heap.objs.size) (nx := Led c₀) (it := { cls := .type "range_iterator", data := .fields #[rawInt a, rawInt (Builtin.Range.rangeSize a b 1), rawInt 1] }) (oc := oc) (v₀ := v₀) (Pit := fun o => ∃ x l, o.data = .fields #[rawInt x, rawInt l, rawInt 1])
    (fun i m nx => Kept Led ps x stored m₀ (P i) m nx) (LCg.range_walks hh a n) ?hgo hk hx hcl ?hcI ?hIL ?hIh ?hdI ?hfp (F.keeps up) ?N hoc ?off ?hst ⟨c₀, rfl, hp, hks, fun _ _ _ _ => rfl⟩ ?turn ?done
  case hgo =>
    intro v s' Q' E' _ hq
    exact wpAny_pure hq
  case hcI => exact Nat.ne_of_lt (lt _ _ (N _ (.head _)).1)
  case hIL => exact Nat.ne_of_gt F.ns.lt
  case hIh => exact fr_size F
  case hdI => exact fun i h st => ⟨_, st, _, _, rfl⟩
  case hfp =>
    intro b hb
    exact .inl (List.mem_singleton.mp hb)
  case N =>
    intro p hp
    rcases List.mem_cons.mp hp with rfl | hp
    · exact ⟨up _ _ (N _ (.head _)).1, (N _ (.head _)).2⟩
    rcases List.mem_cons.mp hp with rfl | hp
    · exact ⟨Heap.get?_push_size _ rfl, Nat.ne_of_gt F.ns.lt, fr_size F⟩
    · exact ⟨up _ _ (N _ (.tail _ hp)).1, (N _ (.tail _ hp)).2⟩
  case off => exact fun p hp => ⟨Nat.ne_of_lt (lt _ _ (N _ (.tail _ hp)).1), off p hp⟩
  case hst =>
    show IsRangeIter _ _ _ _ _
    rw [hn]; simpa using Heap.get?_push_size _ rfl
  case turn =>
    rintro i v m₁ nx₁ h tk it₁ oc₁ hit hv hi ⟨cs, rfl, hp', h1, h2⟩ hd₁ off₁ F₁ N₁
    obtain ⟨t, rfl⟩ := hv
    exact turn _ it₁ oc₁ i cs t m₁ h tk hit hi hp' hd₁ off₁ (Nat.ne_of_lt (lt _ _ (N _ (.head _)).1)) (kst_frOut h1 h2 F₁) N₁
  case done =>
    rintro m₁ nx₁ h tk oc₁ v₁ ⟨cs, rfl, hp', h1, h2⟩ hd₁ F₁ N₁
    exact done cs m₁ h tk oc₁ v₁ hp' hd₁ (kst_frOut h1 h2 F₁) N₁
end
end Mine
end

section
open PySem PySem.W PyProof.Rows PySem.Calls PySem.Spec
namespace Mine
section
variable {prog : Program} {w : World} {A : Around} {h₀ : Heap} {L : Addr} {m : PySem.Str → Option Value} {env : Env} {ct elt : PySem.Expr} {x : PySem.Str} {scope : Scope} {cl : List (PySem.Str × Addr)} {s : Shared} {S : List (Addr × Obj) → Prop} {P : Nat → Value → Prop} {Fin : List Value → List (Addr × Obj) → Prop} {news : List (Addr × Obj)}
/-- a comprehension with a test, by what holds of its list and the ledger -/
theorem compT_inv {n : Nat} (J : Nat → List Value → List (Addr × Obj) → Prop) (h0 : J 0 [] news)
    (turn : ∀ i ys nw v I oI C oC D m₂ h tk (E' : Value → Shared → Prop), i < n → J i ys nw → P i v → LCg.NsObj oC m₂ → m₂ x = some v → Fr h₀ L h m → News h₀ L h ((I, oI) :: (C, oC) :: (D, LCg.lst ys) :: nw) → LCg.Off3 I C D nw → ((@Ne Nat I C) ∧ (@Ne Nat I D) ∧ (@Ne Nat C D)) →
      wpAny (model prog w) A (isTrue ct (compEnvC scope cl C env) (eval ct (compEnvC scope cl C env))) (fun b s' => if b = true then wpAny (model prog w) A (eval elt (compEnvC scope cl C env)) (LCg.CompEnd h₀ L m { s with heap := h, toks := tk } I oI C oC D (LCg.lst ys) S (fun y nw' => J (i + 1) (ys ++ [y]) nw')) E' s'
        else LCg.CompEnd h₀ L m { s with heap := h, toks := tk } I oI C oC D (LCg.lst ys) S (fun _ nw' => J (i + 1) ys nw') Value.none s') E' { s with heap := h, toks := tk })
    (fin : ∀ ys nw, J n ys nw → Fin ys nw) : LCt.CompRestT prog w A h₀ L m env ct elt x scope cl s S P Fin n 0 [] news := by
  have key : ∀ (j i : Nat) (ys : List Value) (nw : List (Addr × Obj)), i + j = n → J i ys nw → LCt.CompRestT prog w A h₀ L m env ct elt x scope cl s S P Fin j i ys nw := by
    intro j
    induction j with
    | zero =>
      intro i ys nw hi hy
      have e : i = n := by (first | exact om189 hi | omega)
      subst e
      exact LCt.CompRestT.zero (fin ys nw hy)
    | succ j ih =>
      intro i ys nw hi hy
      refine LCt.CompRestT.succ ?_
      intro v I oI C oC D m₂ h tk E' hv hC hx F N off ne
      refine wpAny_mono (turn i ys nw v I oI C oC D m₂ h tk E' (by (first | exact om190 hi | omega)) hy hv hC hx F N off ne) (fun b s₂ hq => ?_) fun _ _ e => e
      cases b with
      | true =>
        simp only [if_true] at hq ⊢
        refine wpAny_mono hq (fun y s₃ hr => ?_) fun _ _ e => e
        obtain ⟨h', tk', nw', e, F', N', off', hS, hr'⟩ := hr
        exact ⟨h', tk', nw', e, F', N', off', hS, ih (i + 1) _ _ (by (first | exact om191 hi | omega)) hr'⟩
      | false =>
        simp only [Bool.false_eq_true, if_false] at hq ⊢
        obtain ⟨h', tk', nw', e, F', N', off', hS, hr'⟩ := hq
        exact ⟨h', tk', nw', e, F', N', off', hS, ih (i + 1) _ _ (by (first | exact om191 hi | omega)) hr'⟩
  exact key n 0 [] news (by (first | exact om192 | omega)) h0
theorem compU_inv {n : Nat} (J : Nat → List Value → List (Addr × Obj) → Prop) (h0 : J 0 [] news)
    (turn : ∀ i ys nw v I oI C oC D m₂ h tk (E' : Value → Shared → Prop), i < n → J i ys nw → P i v → LCg.NsObj oC m₂ → m₂ x = some v → Fr h₀ L h m → News h₀ L h ((I, oI) :: (C, oC) :: (D, LCg.lst ys) :: nw) → LCg.Off3 I C D nw → ((@Ne Nat I C) ∧ (@Ne Nat I D) ∧ (@Ne Nat C D)) →
      wpAny (model prog w) A (eval elt (compEnvC scope cl C env)) (LCg.CompEnd h₀ L m { s with heap := h, toks := tk } I oI C oC D (LCg.lst ys) S (fun y nw' => J (i + 1) (ys ++ [y]) nw')) E' { s with heap := h, toks := tk })
    (fin : ∀ ys nw, J n ys nw → Fin ys nw) : LCg.CompRest prog w A h₀ L m env elt x scope cl s S P Fin n 0 [] news := by
  have key : ∀ (j i : Nat) (ys : List Value) (nw : List (Addr × Obj)), i + j = n → J i ys nw → LCg.CompRest prog w A h₀ L m env elt x scope cl s S P Fin j i ys nw := by
    intro j
    induction j with
    | zero =>
      intro i ys nw hi hy
      have e : i = n := by (first | exact om189 hi | omega)
      subst e
      exact LCg.CompRest.zero (fin ys nw hy)
    | succ j ih =>
      intro i ys nw hi hy
      refine LCg.CompRest.succ ?_
      intro v I oI C oC D m₂ h tk E' hv hC hx F N off ne
      refine wpAny_mono (turn i ys nw v I oI C oC D m₂ h tk E' (by (first | exact om190 hi | omega)) hy hv hC hx F N off ne) (fun y s₂ hr => ?_) fun _ _ e => e
      obtain ⟨h', tk', nw', e, F', N', off', hS, hr'⟩ := hr
      exact ⟨h', tk', nw', e, F', N', off', hS, ih (i + 1) _ _ (by (first | exact om191 hi | omega)) hr'⟩
  exact key n 0 [] news (by (first | exact om192 | omega)) h0
end
end Mine
end

section
open PySem PySem.W PyProof.Rows PySem.Calls PySem.Spec
namespace Mine
section
variable {prog : Program} {w : World} {A : Around} {E : Value → Shared → Prop} {s : Shared} {h₀ : Heap} {L : Addr} {m : PySem.Str → Option Value} {env : Env}
/-- a text as a comprehension's source -/
noncomputable def CompSrcS (prog : Program) (w : World) (A : Around) (h₀ : Heap) (L : Addr) (m : PySem.Str → Option Value) (env : Env) (elt : PySem.Expr) (x : PySem.Str) (scope : Scope) (cl : List (PySem.Str × Addr)) (Fin : Shared → List Value → List (Addr × Obj) → Prop) (xv : Value) (s₁ : Shared) : Prop :=
  ∃ (y : PySem.Str) (t : Tok) (news : List (Addr × Obj)), xv = .str y t ∧ A.handled = none ∧ y.cps.all (· < 128) = true ∧ y.cps.size ≤ sizeLine ∧ Fr h₀ L s₁.heap m ∧ News h₀ L s₁.heap news ∧
    ∀ s₂ : Shared, (∃ h, s₂ = { s₁ with heap := h }) → LCg.CompRest prog w A h₀ L m env elt x scope cl s₂ (fun _ => True) (SignAt y) (Fin s₂) y.cps.size 0 [] news
theorem ListComp_S {elt iter : PySem.Expr} {x : PySem.Str} {px : Pos} {scope : Scope} {cl : List (PySem.Str × Addr)} {pos : Pos} {Q : Value → Shared → Prop} (_F₀ : Fr h₀ L s.heap m)
    (hclos : closureFor scope env = pure cl) (hcell : ∀ y ∈ scope.names, y.2 ≠ .cell) (hkind : scope.kind = .function)
    (hnames : ∀ y ∈ scope.names, y.2 = .local → scope.names.lookup y.1 = some .local) (hx : scope.names.lookup x = some .local)
    (h : wpAny (model prog w) A (eval iter env) (CompSrcS prog w A h₀ L m env elt x scope cl (fun s₂ => LCg.FinE h₀ L m s₂ Q)) E s)
    (hs : ∀ x, foldedSetIterable iter env x = pure x := by intro _; rfl) :
    wpAny (model prog w) A (eval (.ListComp elt [⟨.Name x px, iter, [], 0⟩] scope pos) env) Q E s := by
  rw [eval_ListComp]
  refine wpAny_comprehension_free (use := none) rfl hs hclos hkind hnames (wpAny_mono h (fun xv s₁ h₁ => ?_) fun _ _ e => e)
  obtain ⟨y, t, news, rfl, hh, ha, hsz, F, N, R⟩ := h₁
  refine wpAny_pyIter_ascii ha ?_
  refine LCg.block_U (Walks.strAscii hh s₁.heap.objs.size y t) hsz (fun i h st => by obtain ⟨o, e, _⟩ := st; exact ⟨o, e⟩)
    (fun i h h' o nw st e e' _ _ _ => by obtain ⟨o', q, r⟩ := st; rw [e] at q; cases q; exact ⟨o, e', r⟩) hcell hkind hx ⟨_, Heap.get?_push_size _ rfl, rfl, rfl⟩ (fun b hb => ?_)
    (F.keeps fun _ _ e => Heap.get?_push_of_some _ e) (N.grown fun _ _ e => Heap.get?_push_of_some _ e) (Nat.ne_of_lt F.ns.lt) (next_is_new F) (fun p hp => Nat.ne_of_lt (Heap.lt_size (N p hp).1)) trivial (R _ ⟨_, rfl⟩) ?_
  · rw [List.mem_singleton.mp hb]
    show s₁.heap.objs.size < (s₁.heap.push _).objs.size
    rw [Heap.size_push]; exact Nat.lt_succ_self _
  · intro D C h tk m' ys news' F' N' o1 hn hC₀ hD₀ hCL hDL hCD offC fin
    refine ⟨m', hn, fun h'' hs'' => fin D h'' tk (F'.change hs'' hCL hC₀) (fun p hp => ?_) o1⟩
    refine ⟨hs''.extBut _ _ ?_ (N' p hp).1, (N' p hp).2⟩
    rcases List.mem_cons.mp hp with rfl | hp
    · exact Ne.symm hCD
    · exact offC p hp
end
end Mine
end

section
open PySem PySem.W PyProof.Rows PySem.Calls PySem.Spec
namespace Mine
/-- what the table tells of the blocks: ps the places by kind, bs the begins -/
structure BlocksAre (tb : List TRow) (ks : List PySem.Str) (ps bs : Nat → List Int) : Prop where
  place : ∀ i nm, ks[i]? = some nm → ps i = (rangeKs 0 7).filter fun k => match tb[k.toNat]? with | some r => decide (r.1 = nm) && r.2.2 | none => false
  size : ∀ i, i < ks.length → (bs i).length = (ps i).length + 1
  first : (bs 0)[0]? = some 1
  next : ∀ i, i + 1 < ks.length → (bs (i + 1))[0]? = (bs i)[(ps i).length]?
  block : ∀ i, i < ks.length → ∀ j, j < (ps i).length → ∃ x y : Nat, (bs i)[j]? = some (x : Int) ∧ (bs i)[j + 1]? = some (y : Int) ∧ x < y ∧ y ≤ 7 ∧ (∀ k r, x ≤ k → k + 1 < y → tb[k]? = some r → r.2.1 = false) ∧ (∀ r, tb[y - 1]? = some r → r.2.1 = true)
/-- lists of ints, each in the ledger -/
noncomputable def RefsAre (more : List (Addr × Obj)) (vp : List Value) (ps : Nat → List Int) : Prop :=
  ∀ j, j < vp.length → ∃ (a : Addr) (va : List Value) (na : Nat), vp[j]? = some (.ref a) ∧ (a, listOf va.toArray na) ∈ more ∧ IntsAre va (ps j)
local macro_rules | `(tactic| k_all) => `(tactic| assumption)
local macro_rules | `(tactic| k_mem) => `(tactic| first | assumption | (refine List.mem_cons_of_mem _ ?_; first | assumption | k_mem))
local macro_rules | `(tactic| walk_at "call ref") => `(tactic| (refine Halt.mk ?_))
local macro_rules | `(tactic| walk_at "pyIter ref") => `(tactic| (refine Halt.mk ?_))
local macro_rules | `(tactic| walk_at "subscriptTail") => `(tactic| (refine Halt.mk ?_))
local macro_rules | `(tactic| walk_at "exec For Name Name") => `(tactic| (refine Halt.mk ?_))
local macro_rules | `(tactic| walk_at "CompSrcT") => `(tactic| (refine Halt.mk ?_))
local macro_rules | `(tactic| walk_at "call builtin:len") => `(tactic| (refine Halt.mk ?_))
local macro_rules | `(tactic| walk_at "call builtin:list.append") => `(tactic| (refine Halt.mk ?_))
local macro_rules | `(tactic| walk_at "eval ListComp") => `(tactic| (refine Halt.mk ?_))
theorem strs_at {vs : List Value} {ss : List PySem.Str} (h : StrsAre vs ss) {i : Nat} {v : Value} (e : vs[i]? = some v) : ∃ y t, v = .str y t ∧ ss[i]? = some y := by
  have hl : i < ss.length := by rw [← strs_len h]; exact lt_of_some e
  obtain ⟨t, ht⟩ := strs_getD h hl
  rw [e] at ht
  exact ⟨_, t, Option.some.inj ht, by rw [List.getD_eq_getElem?_getD, List.getElem?_eq_getElem hl]; rfl⟩
theorem off1_mem {D : Addr} : ∀ {l : List (Addr × Obj)}, LCg.Off1 D l → ∀ p ∈ l, p.1 ≠ D
  | [], _, _, h => nomatch h
  | q :: r, h, p, hp => by
    rcases List.mem_cons.mp hp with rfl | hp
    · exact h.1
    · exact off1_mem h.2 p hp
local macro_rules | `(tactic| walk_at "subscriptTail Name Name ref int") => `(tactic| (refine Halt.mk ?_))
local macro_rules | `(tactic| walk_at "subscriptTail Name BinOp ref int") => `(tactic| (refine Halt.mk ?_))
local macro_rules | `(tactic| walk_at "subscriptTail Name Constant ref int") => `(tactic| (refine Halt.mk ?_))
local macro_rules | `(tactic| walk_at "subscriptTail Name UnaryOp ref int") => `(tactic| (refine Halt.mk ?_))
local macro_rules | `(tactic| walk_at "subscriptTail Name") => `(tactic| (refine Halt.mk ?_))
local macro_rules | `(tactic| walk_at "subscriptTail Subscript") => `(tactic| (refine Halt.mk ?_))
local macro_rules | `(tactic| walk_at "subscriptTail Subscript Name Name Constant ref int") => `(tactic| (refine Halt.mk ?_))
local macro_rules | `(tactic| walk_at "subscriptTail Subscript Name Name Name ref int") => `(tactic| (refine Halt.mk ?_))
local macro_rules | `(tactic| walk_at "eval Name") => `(tactic| (k_here; k_dflt (refine' nameX_C ?N ?c ?m ?d ?_ ?a ?b; (case b => rfl); (case a => rfl); (case N => assumption); (case c => rfl); (case m => walk_at "mine:cmem"); (case d => assumption); k_whole)))
local macro_rules | `(tactic| walk_at "exec While") => `(tactic| (refine Halt.mk ?_))
local macro_rules | `(tactic| walk_at "WhlRest") => `(tactic| (refine Halt.mk ?_))
local macro_rules | `(tactic| walk_at "exec For Name Subscript") => `(tactic| (k_here; (rename Fr _ _ _ _ => lF'); (with_unfolding_all refine' For_invVF lF' ?k1 ?k2 ?_; (case k1 => exact rfl); (case k2 => exact rfl); k_whole)))
theorem RefsAre.snoc {more more' : List (Addr × Obj)} {vp : List Value} {ps : Nat → List Int} (h : RefsAre more vp ps) (hs : ∀ p ∈ more, p ∈ more') (D : Addr) (va : List Value) (na : Nat) (hm : (D, listOf va.toArray na) ∈ more') (hi : IntsAre va (ps vp.length)) : RefsAre more' (vp ++ [Value.ref D]) ps := by
  intro j hj
  rw [List.length_append, List.length_singleton] at hj
  rcases Nat.lt_or_ge j vp.length with h2 | h2
  · obtain ⟨a, va, na, e1, e2, e3⟩ := h j h2
    exact ⟨a, va, na, by rw [List.getElem?_append_left h2]; exact e1, hs _ e2, e3⟩
  · have e : j = vp.length := by (first | exact om46 hj h2 | omega)
    subst e
    exact ⟨D, va, na, by simp, hm, hi⟩
structure BSt where
  vp : List Value
  np : Nat
  vb : List Value
  nb : Nat
  more : List (Addr × Obj)
  v : Int
  t : Tok
  deriving Inhabited
theorem blocks_tells (w : World) (mean : ExcName → Option Value) (mg mb : PySem.Str → Option Value) (lt lk : Addr) (vt vk : List Value) (nt nk : Nat) (tb : List TRow) (ks : List PySem.Str) (ps bs : Nat → List Int) (hk0 : StrsAre vk ks) (hB : BlocksAre tb ks ps bs) (htl : tb.length = 7) (hkl : ks.length = 4) :
  ∀ (dp un : Nat) (gd : Option (List Code)) (cn : PySem.Str) (cs : Scope) (a : Addr) (ccd : Value) (cl : List (PySem.Str × Addr)) (outer : List Env) (A₀ : Around) (base h₀ : Heap) (L : Addr) (m : PySem.Str → Option Value) (news : List (Addr × Obj)) (s : Shared)
    (Q E : Value → Shared → Prop),
    Below A₀ base outer h₀ → Fr h₀ L s.heap m → (Mine.hd.heap_39 w.params).In h₀ → News h₀ L s.heap news → Top topProg lzz mean mg mb h₀ → cs.kind = .function → dp + 8 < recursionLimit → un + 64 < cLine →
    (lt, listOf vt.toArray nt) ∈ news → (lk, listOf vk.toArray nk) ∈ news → vt.length = 7 → (∀ (j : Nat) (r : TRow), tb[j]? = some r → ∃ a t, vt[j]? = some (.ref a) ∧ (a, tupObj #[.str r.1 t, .bool r.2.1, .bool r.2.2]) ∈ news) →
    (∀ lr lp lb vp np vb nb more h' tk', vp.length = 4 → vb.length = 4 → RefsAre more vp ps → RefsAre more vb bs → Fr h₀ L h' m → News h₀ L h' ((lr, tupObj #[.ref lp, .ref lb]) :: (lb, listOf vb.toArray nb) :: (lp, listOf vp.toArray np) :: (more ++ news)) → (∀ p ∈ news, p.1 < lp) → Q (.ref lr) { s with heap := h', toks := tk' }) →
    wpAny (model Challenge.rw_ux0024_01.row.toRowW.prog w) (ktrTop dp un gd cn cs L a ccd cl outer) (call (.ref 208) [.ref lt, .ref lk]) Q E s := by
  k_fill
  revert hk0 hB htl hkl
  revert lzz w mean mg mb lt lk vt vk nt nk tb ks ps bs
  refine @pk12 _ _ _ _ _ _ _ _ _ _ _ _  ⟨default, (aWorld 0), default, default, default, default, default, default, default, default, default, default⟩ _ ?_; generalize pick12 _ _ = zz; generalize zz.1 = lzz; generalize zz.2.1 = w; generalize zz.2.2.1 = mean; generalize zz.2.2.2.1 = mg; generalize zz.2.2.2.2.1 = mb; generalize zz.2.2.2.2.2.1 = lt; generalize zz.2.2.2.2.2.2.1 = lk; generalize zz.2.2.2.2.2.2.2.1 = vt; generalize zz.2.2.2.2.2.2.2.2.1 = vk; generalize zz.2.2.2.2.2.2.2.2.2.1 = nt; generalize zz.2.2.2.2.2.2.2.2.2.2.1 = nk; generalize zz.2.2.2.2.2.2.2.2.2.2.2 = tb; clear zz
  refine @pk3 _ _ _ inferInstance _ ?_; generalize pick3 _ _ = zz; generalize zz.1 = ks; generalize zz.2.1 = ps; generalize zz.2.2 = bs; clear zz
  intro hk0 hB htl hkl
  intro dp un gd cn cs a ccd cl outer A₀ base h₀ L m news s Q E B F X N T hk hdp hu hm1 hm2 hvt hrow hret
  revert B F X N T hk hdp hu hm1 hm2 hrow hret
  revert dp un gd cn cs a ccd cl outer A₀ base h₀ L m news s Q E
  refine pk12 (o := ⟨default, default, default, default, default, default, default, default, default, callerA, default, default⟩) ?_; generalize pick12 _ _ = zz; generalize zz.1 = dp; generalize zz.2.1 = un; generalize zz.2.2.1 = gd; generalize zz.2.2.2.1 = cn; generalize zz.2.2.2.2.1 = cs; generalize zz.2.2.2.2.2.1 = a; generalize zz.2.2.2.2.2.2.1 = ccd; generalize zz.2.2.2.2.2.2.2.1 = cl; generalize zz.2.2.2.2.2.2.2.2.1 = outer; generalize zz.2.2.2.2.2.2.2.2.2.1 = A₀; generalize zz.2.2.2.2.2.2.2.2.2.2.1 = base; generalize zz.2.2.2.2.2.2.2.2.2.2.2 = h₀; clear zz
  refine pk6 (o := ⟨default, default, default, ({} : Shared), default, default⟩) ?_; generalize pick6 _ _ = zz; generalize zz.1 = L; generalize zz.2.1 = m; generalize zz.2.2.1 = news; generalize zz.2.2.2.1 = s; generalize zz.2.2.2.2.1 = Q; generalize zz.2.2.2.2.2 = E; clear zz
  intro B F X N T hk hdp hu hm1 hm2 hrow hret
  refine wpAny_call ?_
  k_dflt walk_at "mine:own_enterC"
  (rename News _ _ _ _ => NA)
  obtain ⟨ot, hot⟩ := headObj2 NA
  obtain ⟨ok, hok⟩ := headObj NA
  subst hot hok
  (rename Fr _ _ _ _ => FA)
  obtain ⟨L1, hL1⟩ := frIs FA
  subst hL1
  (rename Obj.data ot = _ => dt0)
  (rename Obj.data ok = _ => dk0)
  have dt : ot.data = .cell (some (.ref lt)) := dt0
  have dk : ok.data = .cell none := dk0
  clear dt0 dk0
  k_steps
  unfold Halt
  rename_i zv13 _ _ zv12 zv11 zv10 zv9 zv8 zv7 _ zv6 _ _ zv5 _ zv4 zv3 zv2 zv1 zv0
  revert zv12 zv11 zv10 zv9 zv8 dt dk zv6 zv4 zv1 zv0
  revert zv13 ot ok L1 zv7 zv5 zv3 tk zv2
  refine pk9 ?_; generalize pick9 _ _ = zz; generalize zz.1 = zv13; generalize zz.2.1 = ot; generalize zz.2.2.1 = ok; generalize zz.2.2.2.1 = L1; generalize zz.2.2.2.2.1 = zv7; generalize zz.2.2.2.2.2.1 = zv5; generalize zz.2.2.2.2.2.2.1 = zv3; generalize zz.2.2.2.2.2.2.2.1 = tk; generalize zz.2.2.2.2.2.2.2.2 = zv2; clear zz
  intro _ _ _ _ _ dt dk _ _ _ _
  refine wpAny_For ?_
  k_steps
  unfold Halt
  
  (rename News _ _ _ _ => NB)
  (rename Fr _ _ _ _ => FB)
  obtain ⟨lb, hlb⟩ := headIs NB
  obtain ⟨lp, hlp⟩ := headIs2 NB
  subst hlb hlp
  have hlt0 : ∀ p ∈ news, @LT.lt Nat _ p.1 L1 := (by assumption)
  (rename L1 + 1 + 1 < lp ∧ L1 + 1 < lp ∧ AllLt lp news => hlt1)
  (rename lp < lb ∧ L1 + 1 + 1 < lb ∧ L1 + 1 < lb ∧ AllLt lb news => hlt2)
  have q1 : @LT.lt Nat _ (L1 + 1 + 1) lp := hlt1.1
  have q2 : @LT.lt Nat _ lp lb := hlt2.1
  clear hlt1 hlt2
  have nofs : ∀ p ∈ (L1 + 1, ot) :: news, @LT.lt Nat _ p.1 (L1 + 1 + 1) := by
    intro p hp
    rcases List.mem_cons.mp hp with rfl | hp
    · exact Nat.lt_succ_self _
    · exact Nat.lt_trans (hlt0 p hp) (Nat.lt_trans (Nat.lt_succ_self _) (Nat.lt_succ_self _))
  refine cell_lst (σ := BSt) (c := L1 + 1 + 1) (ax := lk) (lo := listOf vk.toArray nk) (oc := ok) (v₀ := none) (vs := vk) (n := nk)
    (fun c => (lb, listOf c.vb.toArray c.nb) :: (lp, listOf c.vp.toArray c.np) :: (L1 + 1, ot) :: (c.more ++ news)) (fun c => [(Str.ofString "at", .int c.v c.t)]) [Str.ofString "k"]
    (fun i c => c.vp.length = i ∧ c.vb.length = i ∧ RefsAre c.more c.vp ps ∧ RefsAre c.more c.vb bs ∧ (i < ks.length → (bs i)[0]? = some c.v) ∧ (∀ p ∈ c.more, p.1 ≠ lb ∧ p.1 ≠ lp ∧ p.1 ≠ L1 + 1 + 1))
    ⟨[], 0, [], 0, [], 1, ?t0⟩ rfl rfl rfl (fun c => .tail _ (.tail _ (.tail _ (List.mem_append_right _ hm2)))) rfl rfl rfl FB ?N dk ?off ?ps ⟨rfl, rfl, (fun j hj => absurd hj (Nat.not_lt_zero _)), (fun j hj => absurd hj (Nat.not_lt_zero _)), (fun _ => hB.first), List.forall_mem_nil _⟩ ?turn ?done
  case ps => exact List.forall_mem_cons.mpr ⟨by dsimp only; rfl, List.forall_mem_nil _⟩
  case N => exact newsSub NB ((L1 + 1 + 1, ok) :: (lb, listOf #[] 0) :: (lp, listOf #[] 0) :: (L1 + 1, ot) :: ([] ++ news)) (by walk_at "mine:sub")
  case off =>
    intro p hp
    rcases List.mem_cons.mp hp with rfl | hp
    · exact Nat.ne_of_gt (Nat.lt_trans q1 q2)
    rcases List.mem_cons.mp hp with rfl | hp
    · exact Nat.ne_of_gt q1
    · exact Nat.ne_of_lt (nofs p hp)
  case turn =>
    intro I it oc₁ i c v u h tk hv hJ hoc off hcI F1 N1
    revert FB NB q1 q2 hv hJ hoc off hcI F1 N1
    revert lb lp I it oc₁ i c v u h tk
    refine pk11 ?_; generalize pick11 _ _ = zz; generalize zz.1 = lb; generalize zz.2.1 = lp; generalize zz.2.2.1 = I; generalize zz.2.2.2.1 = it; generalize zz.2.2.2.2.1 = oc₁; generalize zz.2.2.2.2.2.1 = i; generalize zz.2.2.2.2.2.2.1 = c; generalize zz.2.2.2.2.2.2.2.1 = v; generalize zz.2.2.2.2.2.2.2.2.1 = u; generalize zz.2.2.2.2.2.2.2.2.2.1 = h; generalize zz.2.2.2.2.2.2.2.2.2.2 = tk; clear zz
    intro FB NB q1 q2 hv hJ hoc off hcI F1 N1
    obtain ⟨vp, np, vb, nb, more, at_, ta⟩ := c
    obtain ⟨hvp, hvb, hRp, hRb, hat, hmore⟩ := hJ
    dsimp only [kstB] at hvp hvb hRp hRb hat hmore F1 N1 off
    replace F1 : Fr _ L1 _ _ := F1
    replace N1 : News _ L1 _ _ := N1
    have hi4 : i < ks.length := by rw [← strs_len hk0]; exact lt_of_some hv
    obtain ⟨nm, tnm, rfl, hnm⟩ := strs_at hk0 hv
    k_steps
    unfold Halt
    
    refine LCt.ListComp_T (F₀ := F1) (by with_unfolding_all rfl) (by decide) (by rfl) (by decide) (by rfl) ?_
    k_steps
    unfold Halt
    revert hat F1
    revert at_ ta
    refine pk2 ?_; generalize pick2 _ _ = zz; generalize zz.1 = at_; generalize zz.2 = ta; clear zz
    intro hat F1
    have hm1' : (lt, listOf vt.toArray nt) ∈ more ++ news := List.mem_append_right _ hm1
    refine len_list ⟨_, (N1 (lt, listOf vt.toArray nt) (by k_mem)).1, rfl, _, rfl⟩ (by rw [List.size_toArray]; (first | exact om47 hvt | omega)) ?_
    rw [show ((vt.toArray.size : Nat) : Int) = 7 by simp [hvt]]
    k_steps
    unfold Halt
    rename_i zv23 _ zv22 zv21 zv20 zv19 zv18 zv17 zv16 zv15 zv14
    revert off hvp hvb hRp hRb hmore zv23 hm1' zv17 zv16 zv15 zv14
    revert vp np vb nb more zv22 zv21 zv20 zv19 zv18
    refine pk10 ?_; generalize pick10 _ _ = zz; generalize zz.1 = vp; generalize zz.2.1 = np; generalize zz.2.2.1 = vb; generalize zz.2.2.2.1 = nb; generalize zz.2.2.2.2.1 = more; generalize zz.2.2.2.2.2.1 = zv22; generalize zz.2.2.2.2.2.2.1 = zv21; generalize zz.2.2.2.2.2.2.2.1 = zv20; generalize zz.2.2.2.2.2.2.2.2.1 = zv19; generalize zz.2.2.2.2.2.2.2.2.2 = zv18; clear zz
    intro off hvp hvb hRp hRb hmore _ hm1' _ _ _ _
    refine LCt.CompSrcT.range (n := 7) rfl (by assumption) (by assumption) (by assumption) (by decide) (by decide) (by decide) ?_
    intro g
    revert g
    refine pk1 ?_; generalize pick1 _ _ = g
    refine compT_inv (fun j ys nw => ∃ zs, IntsAre ys zs ∧ zs = (rangeKs 0 j).filter (fun k => match tb[k.toNat]? with | some r => decide (r.1 = nm) && r.2.2 | none => false) ∧ nw = (L1 + 1 + 1, oc₁) :: (I, it) :: (lb, listOf vb.toArray nb) :: (lp, listOf vp.toArray np) :: (L1 + 1, ot) :: (more ++ news)) ⟨[], .nil, rfl, rfl⟩ ?_ ?_
    · intro j ys nw v' I2 oI2 C oC D m₂ h2 tk2 E' hj hJ hv' hC hx F2 N2 off2 ne2
      revert hnm hv hoc hj hJ hv' hC hx F2 N2 off2 ne2
      revert nm tnm j ys nw v' I2 oI2 C oC D m₂ h2 tk2 E'
      refine pk12 ?_; generalize pick12 _ _ = zz; generalize zz.1 = nm; generalize zz.2.1 = tnm; generalize zz.2.2.1 = j; generalize zz.2.2.2.1 = ys; generalize zz.2.2.2.2.1 = nw; generalize zz.2.2.2.2.2.1 = v'; generalize zz.2.2.2.2.2.2.1 = I2; generalize zz.2.2.2.2.2.2.2.1 = oI2; generalize zz.2.2.2.2.2.2.2.2.1 = C; generalize zz.2.2.2.2.2.2.2.2.2.1 = oC; generalize zz.2.2.2.2.2.2.2.2.2.2.1 = D; generalize zz.2.2.2.2.2.2.2.2.2.2.2 = m₂; clear zz
      refine pk3 ?_; generalize pick3 _ _ = zz; generalize zz.1 = h2; generalize zz.2.1 = tk2; generalize zz.2.2 = E'; clear zz
      intro hnm hv hoc hj hJ hv' hC hx F2 N2 off2 ne2
      obtain ⟨zs, hz1, hz2, rfl⟩ := hJ
      obtain ⟨t2, rfl⟩ := hv'
      obtain ⟨⟨nm2, la, inn⟩, hr⟩ : ∃ r, tb[j]? = some r := ⟨_, List.getElem?_eq_getElem (by (first | exact om48 htl hj | omega))⟩
      obtain ⟨ra, rt, hra, mra⟩ := hrow j _ hr
      dsimp only at mra
      have mra' := List.mem_append_right more mra
      have hzs : (rangeKs 0 (j + 1)).filter (fun k => match tb[k.toNat]? with | some r => decide (r.1 = nm) && r.2.2 | none => false) = if (decide (nm2 = nm) && inn) = true then zs ++ [(j : Int)] else zs := by
        have e : rangeKs 0 (j + 1) = rangeKs 0 j ++ [(0 : Int) + (j : Int)] := by unfold rangeKs; rw [List.range_succ, List.map_append]; rfl
        rw [e, List.filter_append, hz2]
        simp only [Int.zero_add, List.filter_cons, List.filter_nil, Int.toNat_natCast, hr]
        split <;> simp
      have off3 := off2.mem
      k_steps
      unfold Halt
      revert hx
      revert t2
      refine pk1 ?_; generalize pick1 _ _ = t2
      intro hx
      (refine item_led (by assumption) (by k_mem) (by omega) (by omega) (by simpa using hra) ?_ (by with_unfolding_all rfl))
      k_steps
      unfold Halt
      revert hz1 hz2 hr hra mra mra' hzs
      revert zs nm2 la inn ra rt
      refine pk6 ?_; generalize pick6 _ _ = zz; generalize zz.1 = zs; generalize zz.2.1 = nm2; generalize zz.2.2.1 = la; generalize zz.2.2.2.1 = inn; generalize zz.2.2.2.2.1 = ra; generalize zz.2.2.2.2.2 = rt; clear zz
      intro hz1 hz2 hr hra mra mra' hzs
      walk_at "mine:tup"
      k_steps
      · unfold Halt
        (rename (nm2 == nm) = true => heq)
        (refine item_led (by assumption) (by k_mem) (by omega) (by omega) (by simpa using hra) ?_ (by with_unfolding_all rfl))
        k_steps
        unfold Halt
        
        walk_at "mine:tup"
        k_steps
        · (rename inn = true => hinn)
          refine LCg.CompEnd.intro (by assumption) (by assumption) _ (fun p hp => hp) off2 trivial ⟨zs ++ [(j : Int)], ?_, ?_, rfl⟩
          · rw [show (0 : Int) + (j : Int) = j by (first | exact om49 | omega)]
            exact IntsAre.snoc hz1 _ _
          · rw [hzs, if_pos (by rw [eq_of_beq heq, hinn]; simp)]
        · (rename inn = false => hinn)
          refine LCg.CompEnd.intro (by assumption) (by assumption) _ (fun p hp => hp) off2 trivial ⟨zs, hz1, ?_, rfl⟩
          rw [hzs, if_neg (by rw [hinn]; simp)]
      · (rename (nm2 == nm) = false => heq)
        refine LCg.CompEnd.intro (by assumption) (by assumption) _ (fun p hp => hp) off2 trivial ⟨zs, hz1, ?_, rfl⟩
        rw [hzs, if_neg (by have := ne_of_beq_false heq; simp [this])]
    · intro ys nw hJ
      revert hnm hv hoc hJ
      revert nm tnm ys nw
      refine pk4 ?_; generalize pick4 _ _ = zz; generalize zz.1 = nm; generalize zz.2.1 = tnm; generalize zz.2.2.1 = ys; generalize zz.2.2.2 = nw; clear zz
      intro hnm hv hoc hJ
      obtain ⟨zs, hz1, hz2, rfl⟩ := hJ
      intro D h2 tk2 F2 N2 offD
      rw [← hB.place i nm hnm] at hz2
      subst hz2
      have evz := ints_len hz1
      have offD' := off1_mem offD
      have dD : ∀ p ∈ (L1 + 1 + 1, oc₁) :: (I, it) :: (lb, listOf vb.toArray nb) :: (lp, listOf vp.toArray np) :: (L1 + 1, ot) :: (more ++ news), p.1 ≠ D := offD'
      have rest_ne : ∀ p ∈ (L1 + 1, ot) :: (more ++ news), p.1 ≠ lp ∧ p.1 ≠ lb := by
        intro p hp
        rcases List.mem_cons.mp hp with rfl | hp
        · exact ⟨Nat.ne_of_lt (Nat.lt_trans (Nat.lt_succ_self _) q1), Nat.ne_of_lt (Nat.lt_trans (Nat.lt_succ_self _) (Nat.lt_trans q1 q2))⟩
        rcases List.mem_append.mp hp with hp | hp
        · exact ⟨(hmore p hp).2.1, (hmore p hp).1⟩
        · have := nofs p (.tail _ hp)
          exact ⟨Nat.ne_of_lt (Nat.lt_trans this q1), Nat.ne_of_lt (Nat.lt_trans this (Nat.lt_trans q1 q2))⟩
      have oI := off (lb, listOf vb.toArray nb) (.head _)
      have oI2 := off (lp, listOf vp.toArray np) (.tail _ (.head _))
      have nD1 : D ≠ lp := Ne.symm (dD (lp, _) (.tail _ (.tail _ (.tail _ (.head _)))))
      have nD2 : D ≠ lb := Ne.symm (dD (lb, _) (.tail _ (.tail _ (.head _))))
      have nc1 : L1 + 1 + 1 ≠ lp := Nat.ne_of_lt q1
      have nc2 : L1 + 1 + 1 ≠ lb := Nat.ne_of_lt (Nat.lt_trans q1 q2)
      have nlb : lb ≠ lp := Nat.ne_of_gt q2
      k_steps
      unfold Halt
      revert F2 N2 offD offD' dD nD1 nD2
      revert D h2 tk2
      refine pk3 ?_; generalize pick3 _ _ = zz; generalize zz.1 = D; generalize zz.2.1 = h2; generalize zz.2.2 = tk2; clear zz
      intro F2 N2 offD offD' dD nD1 nD2
      refine app_led (by assumption) (by assumption) (.tail nD1 (.tail nc1 (.tail (Ne.symm oI2.1) (.tail nlb (.head fun q hq => (rest_ne q hq).1))))) (by (first | exact om50 hkl hi4 hvp hvb | omega)) ?_
      intro h3 F3 N3
      revert F3 N3
      revert h3
      refine pk1 ?_; generalize pick1 _ _ = h3
      intro F3 N3
      k_steps
      unfold Halt
      rename_i zv28 zv27 zv26 zv25 zv24
      revert zv26 zv25 zv24
      revert tk zv28 zv27
      refine pk3 ?_; generalize pick3 _ _ = zz; generalize zz.1 = tk; generalize zz.2.1 = zv28; generalize zz.2.2 = zv27; clear zz
      intro _ _ _
      (rename News _ _ _ (_ :: (D, _) :: _) => N4)
      obtain ⟨nA, hnA⟩ := headIs N4
      subst hnA
      (rename D < nA ∧ _ => hlA)
      have a0 : @LT.lt Nat _ D nA := hlA.1
      have hlA' := lt_of_all (d := nA) (l := (L1 + 1 + 1, oc₁) :: (I, it) :: (lb, listOf vb.toArray nb) :: (lp, listOf (vp ++ [Value.ref D]).toArray (np + 1)) :: (L1 + 1, ot) :: (more ++ news)) hlA.2
      have a1 : nA ≠ D := Nat.ne_of_gt a0
      have a2 : nA ≠ lb := Nat.ne_of_gt (hlA' (lb, _) (.tail _ (.tail _ (.head _))))
      have a3 : nA ≠ lp := Nat.ne_of_gt (hlA' (lp, _) (.tail _ (.tail _ (.tail _ (.head _)))))
      have a4 : ∀ p ∈ (D, LCg.lst ys) :: (L1 + 1 + 1, oc₁) :: (I, it) :: (lb, listOf (vb ++ [Value.ref nA]).toArray (nb + 1)) :: (lp, listOf (vp ++ [Value.ref D]).toArray (np + 1)) :: (L1 + 1, ot) :: (more ++ news), p.1 ≠ nA := by
        intro p hp
        rcases List.mem_cons.mp hp with rfl | hp
        · exact Ne.symm a1
        rcases List.mem_cons.mp hp with rfl | hp
        · exact Nat.ne_of_lt (hlA' (L1 + 1 + 1, _) (.head _))
        rcases List.mem_cons.mp hp with rfl | hp
        · exact Nat.ne_of_lt (hlA' (I, _) (.tail _ (.head _)))
        rcases List.mem_cons.mp hp with rfl | hp
        · exact Ne.symm a2
        rcases List.mem_cons.mp hp with rfl | hp
        · exact Ne.symm a3
        · exact Nat.ne_of_lt (hlA' p (.tail _ (.tail _ (.tail _ (.tail _ hp)))))
      refine app_led (by assumption) N4 (.tail a2 (.tail nD2 (.tail nc2 (.tail (Ne.symm oI.1) (.head fun q hq => by
        rcases List.mem_cons.mp hq with rfl | hq
        · exact Ne.symm nlb
        · exact (rest_ne q hq).2))))) (by (first | exact om51 hkl hi4 hvp hvb | omega)) ?_
      intro h5 F5 N5
      revert N4 hlA a0 hlA' a1 a2 a3 a4 F5 N5
      revert nA h5
      refine pk2 ?_; generalize pick2 _ _ = zz; generalize zz.1 = nA; generalize zz.2 = h5; clear zz
      intro N4 hlA a0 hlA' a1 a2 a3 a4 F5 N5
      k_steps
      unfold Halt
      revert tk
      refine pk1 ?_; generalize pick1 _ _ = tk
      refine item_last (by assumption) (by k_mem) (v := .ref D) (by simp) ?_
      k_steps
      unfold Halt
      
      have hat0 := hat hi4
      refine lst_st (σ := List Value × Nat × Int × Tok) (ax := D) (lo := LCg.lst ys) (vs := ys) (n := ys.length) (fun c => (nA, listOf c.1.toArray c.2.1) :: (D, LCg.lst ys) :: (L1 + 1 + 1, oc₁) :: (I, it) :: (lb, listOf (vb ++ [Value.ref nA]).toArray (nb + 1)) :: (lp, listOf (vp ++ [Value.ref D]).toArray (np + 1)) :: (L1 + 1, ot) :: (more ++ news))
        (fun c => [(Str.ofString "at", .int c.2.2.1 c.2.2.2)]) [] (fun j c => IntsAre c.1 ((bs i).take j) ∧ (bs i)[j]? = some c.2.2.1) ([], 0, at_, ta) rfl rfl rfl (fun c => .tail _ (.head _)) (by assumption) N5 (List.forall_mem_cons.mpr ⟨rfl, List.forall_mem_nil _⟩) ⟨by rw [List.take_zero]; exact .nil, hat0⟩ ?turn2 ?done2
      case turn2 =>
        intro I2 it2 j c v u2 h6 tk6 hv2 hit2 hJ2 off6 F6 N6
        revert hv2 hit2 hJ2 off6 F6 N6
        revert I2 it2 j c v u2 h6 tk6
        refine pk8 ?_; generalize pick8 _ _ = zz; generalize zz.1 = I2; generalize zz.2.1 = it2; generalize zz.2.2.1 = j; generalize zz.2.2.2.1 = c; generalize zz.2.2.2.2.1 = v; generalize zz.2.2.2.2.2.1 = u2; generalize zz.2.2.2.2.2.2.1 = h6; generalize zz.2.2.2.2.2.2.2 = tk6; clear zz
        intro hv2 hit2 hJ2 off6 F6 N6
        obtain ⟨vn, nn, ac, tac⟩ := c
        obtain ⟨hvn, hac⟩ := hJ2
        dsimp only [kstB] at hvn hac F6 N6 off6
        simp only [List.contains_nil, Bool.false_eq_true, if_false] at F6
        replace F6 : Fr _ L1 _ _ := F6
        replace N6 : News _ L1 _ _ := N6
        have hj : j < (ps i).length := by rw [← evz]; exact lt_of_some hv2
        obtain ⟨x, y, hx, hy, hxy, hy7, hno, hlast⟩ := hB.block i hi4 j hj
        rw [hac] at hx
        have hx := Option.some.inj hx
        subst hx
        k_steps
        unfold Halt
        
        refine item_last (by assumption) (by k_mem) (v := .ref nA) (by simp) ?_
        k_steps
        unfold Halt
        revert hy hxy hy7 hno hlast hac F6 hx
        revert tac x y
        refine pk3 ?_; generalize pick3 _ _ = zz; generalize zz.1 = tac; generalize zz.2.1 = x; generalize zz.2.2 = y; clear zz
        intro hy hxy hy7 hno hlast hac F6 hx
        have evn := ints_len hvn
        have hsb := hB.size i hi4
        have hp7 : (ps i).length ≤ 7 := by
          rw [hB.place i nm hnm]
          exact Nat.le_trans (List.length_filter_le _ _) (Nat.le_of_eq (rangeKs_length 0 7))
        have hI2 : I2 ≠ nA := Ne.symm (off6 (nA, _) (.head _))
        refine app_led (by assumption) (by assumption) (.tail hI2 (.head a4)) (by rw [evn, List.length_take]; (first | exact om52 evz hj hsb hp7 | omega)) ?_
        intro h7 F7 N7
        revert off6 hvn N6 evn F7 N7
        revert vn nn h7
        refine pk3 ?_; generalize pick3 _ _ = zz; generalize zz.1 = vn; generalize zz.2.1 = nn; generalize zz.2.2 = h7; clear zz
        intro off6 hvn N6 evn F7 N7
        k_steps
        unfold Halt
        revert tk
        refine pk1 ?_; generalize pick1 _ _ = tk
        refine whl_start 1 ?_
        refine whl_st (σ := Nat × Tok) (fun _ => (I2, it2) :: (nA, listOf (vn ++ [Value.int (x : Nat) tac]).toArray (nn + 1)) :: (D, LCg.lst ys) :: (L1 + 1 + 1, oc₁) :: (I, it) :: (lb, listOf (vb ++ [Value.ref nA]).toArray (nb + 1)) :: (lp, listOf (vp ++ [Value.ref D]).toArray (np + 1)) :: (L1 + 1, ot) :: (more ++ news))
          (fun c => [(Str.ofString "at", .int (c.1 : Nat) c.2)]) [] (fun c => y - 1 - c.1) (fun c => x ≤ c.1 ∧ c.1 + 1 ≤ y) (x, ?tw) F7 N7 ?kw ⟨Nat.le_refl _, hxy⟩ ?turnw 1
        case kw => exact List.forall_mem_cons.mpr ⟨by dsimp only; rfl, List.forall_mem_nil _⟩
        case turnw =>
          intro c u3 h8 tk8 hJ3 F8 N8 IH
          revert hJ3 F8 N8 IH
          revert c u3 h8 tk8
          refine pk4 ?_; generalize pick4 _ _ = zz; generalize zz.1 = c; generalize zz.2.1 = u3; generalize zz.2.2.1 = h8; generalize zz.2.2.2 = tk8; clear zz
          intro hJ3 F8 N8 IH
          obtain ⟨b, tb_⟩ := c
          obtain ⟨g1, g2⟩ := hJ3
          dsimp only [kstB] at g1 g2 F8 N8 IH
          simp only [List.contains_nil, Bool.false_eq_true, if_false] at F8
          obtain ⟨⟨nm2, la, inn⟩, hr⟩ : ∃ r, tb[b]? = some r := ⟨_, List.getElem?_eq_getElem (by (first | exact om53 htl hy7 g2 | omega))⟩
          obtain ⟨ra, rt, hra, mra⟩ := hrow b _ hr
          dsimp only at mra
          have mra' := List.mem_append_right more mra
          refine whl_turn (by first | passes_own | with_unfolding_all passes_own) ?_
          k_steps
          unfold Halt
          revert IH g1 g2 F8 hr hra mra mra'
          revert b tb_ nm2 la inn ra rt
          refine pk7 ?_; generalize pick7 _ _ = zz; generalize zz.1 = b; generalize zz.2.1 = tb_; generalize zz.2.2.1 = nm2; generalize zz.2.2.2.1 = la; generalize zz.2.2.2.2.1 = inn; generalize zz.2.2.2.2.2.1 = ra; generalize zz.2.2.2.2.2.2 = rt; clear zz
          intro IH g1 g2 F8 hr hra mra mra'
          (refine item_led (by assumption) (by k_mem) (by omega) (by omega) (by simpa using hra) ?_ (by with_unfolding_all rfl))
          k_steps
          unfold Halt
          
          walk_at "mine:tup"
          k_steps
          by_cases hb : b + 1 = y
          · have hla : la = true := hlast _ (by rw [← hb]; exact hr)
            subst hla
            refine WhlIf.no (by rfl) ?_
            k_steps
            refine UnrEnd.st (vn ++ [Value.int (x : Nat) tac], nn + 1, (b : Int) + 1, _) (by assumption) (by assumption) (fun p hp => ?_) (by k_mem) (fun p hp => List.mem_cons_of_mem _ hp) ⟨?_, ?_⟩ (List.forall_mem_cons.mpr ⟨rfl, List.forall_mem_nil _⟩) ?_
            · rcases List.mem_cons.mp hp with rfl | hp
              · exact Ne.symm hI2
              · exact off6 p (.tail _ hp)
            · dsimp only
              rw [List.take_add_one, hac]
              exact IntsAre.snoc hvn _ _
            · dsimp only
              rw [hy, ← hb]
              rfl
            · intro z z1 z2 z3
              have z4 := z2 _ (List.mem_cons_self ..)
              simp [z1, z4]
          · have hla : la = false := hno b _ g1 (by (first | exact om54 g2 hb | omega)) hr
            subst hla
            refine WhlIf.yes (by rfl) ?_
            k_steps
            unfold Halt
            rename_i zv31 zv30 zv29
            revert zv30 zv29
            revert tk zv31
            refine pk2 ?_; generalize pick2 _ _ = zz; generalize zz.1 = tk; generalize zz.2 = zv31; clear zz
            intro _ _
            (rename Fr _ _ _ _ => FZ)
            obtain ⟨tn, htn⟩ := tokOf FZ (x := Str.ofString "at") rfl (show (b : Int) + 1 = ((b + 1 : Nat) : Int) by (first | exact om55 | omega))
            refine IH (b + 1, tn) _ _ _ _ ⟨?x1, ?x2⟩ ?x4 (by assumption) (by assumption) (fun p hp => by k_mem) ?ps2 ?rest
            case ps2 => exact List.forall_mem_cons.mpr ⟨htn, List.forall_mem_nil _⟩
            case x1 => dsimp only; (first | exact om56 g1 | omega)
            case x2 => dsimp only; (first | exact om57 g2 hb | omega)
            case x4 => dsimp only; (first | exact om58 g2 hb | omega)
            case rest =>
              intro z z1 z3
              have z5 := z1 _ (List.mem_cons_self ..)
              simp [z5]
      case done2 =>
        intro c u2 h6 tk6 hJ2 F6 N6
        revert hJ2 F6 N6
        revert c u2 h6 tk6
        refine pk4 ?_; generalize pick4 _ _ = zz; generalize zz.1 = c; generalize zz.2.1 = u2; generalize zz.2.2.1 = h6; generalize zz.2.2.2 = tk6; clear zz
        intro hJ2 F6 N6
        obtain ⟨vn, nn, ac, tac⟩ := c
        obtain ⟨hvn, hac⟩ := hJ2
        dsimp only [kstB] at hvn hac F6 N6
        simp only [List.contains_nil, Bool.false_eq_true, if_false] at F6
        replace F6 : Fr _ L1 _ _ := F6
        replace N6 : News _ L1 _ _ := N6
        rw [evz] at hvn hac
        have evn := ints_len hvn
        have hsb := hB.size i hi4
        have hp7 : (ps i).length ≤ 7 := by
          rw [hB.place i nm hnm]
          exact Nat.le_trans (List.length_filter_le _ _) (Nat.le_of_eq (rangeKs_length 0 7))
        k_steps
        unfold Halt
        
        refine item_last (by assumption) (by k_mem) (v := .ref nA) (by simp) ?_
        k_steps
        unfold Halt
        revert hac F6
        revert ac tac
        refine pk2 ?_; generalize pick2 _ _ = zz; generalize zz.1 = ac; generalize zz.2 = tac; clear zz
        intro hac F6
        refine app_led (by assumption) (by assumption) (.head a4) (by rw [evn, List.length_take]; (first | exact om59 evz hsb hp7 | omega)) ?_
        intro h7 F7 N7
        revert hvn N6 evn F7 N7
        revert vn nn h7
        refine pk3 ?_; generalize pick3 _ _ = zz; generalize zz.1 = vn; generalize zz.2.1 = nn; generalize zz.2.2 = h7; clear zz
        intro hvn N6 evn F7 N7
        k_steps
        have hbs : (bs i).take (ps i).length ++ [ac] = bs i := by
          have e : (bs i).take ((ps i).length + 1) = bs i := List.take_of_length_le (by (first | exact om60 hsb | omega))
          rw [List.take_add_one, hac] at e
          exact e
        have hvn2 : IntsAre (vn ++ [Value.int ac tac]) (bs i) := by
          rw [← hbs]
          exact IntsAre.snoc hvn _ _
        refine CEnd.st (c := L1 + 1 + 1) (I := I) (it := it) ⟨vp ++ [Value.ref D], np + 1, vb ++ [Value.ref nA], nb + 1, (nA, listOf (vn ++ [Value.int ac tac]).toArray (nn + 1)) :: (D, LCg.lst ys) :: more, ac, tac⟩ F7 N7 (by k_mem) hoc (fun p hp => ?_) (by k_mem) (fun p hp => ?_) ⟨?_, ?_, ?_, ?_, ?_, ?_⟩ (List.forall_mem_cons.mpr ⟨rfl, List.forall_mem_nil _⟩) ?_
        · simp only [List.mem_cons, List.cons_append, List.mem_append] at hp
          rcases hp with rfl | rfl | rfl | rfl | rfl | hp
          · exact oI
          · exact oI2
          · exact off (L1 + 1, ot) (.tail _ (.tail _ (.head _)))
          · exact ⟨Ne.symm (a4 (I, it) (.tail _ (.tail _ (.head _)))), Ne.symm (a4 (L1 + 1 + 1, oc₁) (.tail _ (.head _)))⟩
          · exact ⟨Ne.symm (dD (I, it) (.tail _ (.head _))), Ne.symm (dD (L1 + 1 + 1, oc₁) (.head _))⟩
          · exact off p (.tail _ (.tail _ (.tail _ (List.mem_append.mpr hp))))
        · (revert p; walk_at "mine:sub")
        · simp [hvp]
        · simp [hvb]
        · exact hRp.snoc (fun p hp => .tail _ (.tail _ hp)) D ys ys.length (.tail _ (.head _)) (by rw [hvp]; exact hz1)
        · exact hRb.snoc (fun p hp => .tail _ (.tail _ hp)) nA _ (nn + 1) (.head _) (by rw [hvb]; exact hvn2)
        · exact fun hi1 => (hB.next i hi1).trans hac
        · intro p hp
          rcases List.mem_cons.mp hp with rfl | hp
          · exact ⟨a2, a3, Ne.symm (a4 (L1 + 1 + 1, oc₁) (.tail _ (.head _)))⟩
          rcases List.mem_cons.mp hp with rfl | hp
          · exact ⟨nD2, nD1, Ne.symm (dD (L1 + 1 + 1, oc₁) (.head _))⟩
          · exact hmore p hp
        · intro z z1 z2 z3
          have z4 := z2 _ (List.mem_cons_self ..)
          have z5 : z ≠ Str.ofString "k" := by rintro rfl; revert z3; decide
          simp [z1, z4, z5, z3]
  case done =>
    intro c u h tk oc₁ v₁ hJ hoc F1 N1
    revert FB NB q1 q2 hJ hoc F1 N1
    revert lb lp c u h tk oc₁ v₁
    refine pk8 ?_; generalize pick8 _ _ = zz; generalize zz.1 = lb; generalize zz.2.1 = lp; generalize zz.2.2.1 = c; generalize zz.2.2.2.1 = u; generalize zz.2.2.2.2.1 = h; generalize zz.2.2.2.2.2.1 = tk; generalize zz.2.2.2.2.2.2.1 = oc₁; generalize zz.2.2.2.2.2.2.2 = v₁; clear zz
    intro FB NB q1 q2 hJ hoc F1 N1
    obtain ⟨vp, np, vb, nb, more, at_, ta⟩ := c
    obtain ⟨hvp, hvb, hRp, hRb, _, _⟩ := hJ
    dsimp only [kstB] at hvp hvb hRp hRb F1 N1
    replace F1 : Fr _ L1 _ _ := F1
    replace N1 : News _ L1 _ _ := N1
    have hvk := strs_len hk0
    replace N1 := newsSub N1 ((lb, listOf vb.toArray nb) :: (lp, listOf vp.toArray np) :: (more ++ news)) (by walk_at "mine:sub")
    k_steps
    refine hret _ lp lb vp np vb nb more _ _ (by (first | exact om61 hkl hvp hvb hvk | omega)) (by (first | exact om62 hkl hvb hvk | omega)) hRp hRb (by assumption) (by assumption) (fun p hp => Nat.lt_trans (nofs p (.tail _ hp)) q1)
end Mine
end

section
namespace Mine
/-- the tokens of a drawn tree: some n opens node n, none closes; q: the parents of the nodes 1..6 -/
noncomputable def toksUp (q : List Nat) (f : Nat → List (Option Nat)) (node : Nat) : Nat → List (Option Nat)
  | 0 => [some node]
  | i + 1 => if q.getD (node + i) 9 = node then toksUp q f node i ++ f (node + 1 + i) else toksUp q f node i
noncomputable def toksN (q : List Nat) : Nat → Nat → List (Option Nat)
  | 0, _ => []
  | k + 1, node => toksUp q (toksN q k) node (6 - node) ++ [none]
structure Mach where
  par : List Nat
  ids : List Nat
  opens : List Nat
noncomputable def machStep (c : Mach) : Option Nat → Mach
  | some n => ⟨c.par ++ [c.opens.headD 0], c.ids ++ [n], (c.ids.length + 1) :: c.opens⟩
  | none => ⟨c.par, c.ids, c.opens.tail⟩
noncomputable def machOf (t : List (Option Nat)) : Mach := t.foldl machStep ⟨[], [], [0]⟩
/-- depth of node k by the parents' list (each one more than the parent; 0: none) -/
noncomputable def depthOf (a : List Nat) : Nat → Nat → Nat
  | 0, _ => 0
  | f + 1, k => match a.getD k 0 with
    | 0 => 0
    | p + 1 => depthOf a f p + 1
noncomputable def lastB (a : List Nat) (k : Nat) : Bool := (List.range 7).all fun j => !(k < j && a.getD j 0 == a.getD k 0)
noncomputable def innerB (a : List Nat) (v : Nat) : Bool := (List.range 7).any fun j => a.getD j 0 == v + 1
/-- the stack is never empty at an opening, nor at a close below the first mark -/
noncomputable def stacksOk : List (Option Nat) → Nat → Bool
  | [], d => d == 0
  | some _ :: r, d => stacksOk r (d + 1)
  | none :: r, d => match d with
    | 0 => false
    | d + 1 => stacksOk r d
noncomputable def check (q : List Nat) : Bool :=
  let t := toksN q 7 0
  let m := machOf t
  let a := m.par
  let ds := (List.range 7).map (depthOf a 7)
  t.length == 14 && stacksOk t 0 && a.length == 7 && m.ids.length == 7 && m.ids.isPerm (List.range 7) && m.ids.getD 0 9 == 0 && a.getD 0 9 == 0 && m.opens == [0]
  && ((List.range 7).all fun k => k == 0 || (Nat.ble 1 (a.getD k 0) && Nat.ble (a.getD k 0) k && q.getD (m.ids.getD k 0 - 1) 9 == m.ids.getD (a.getD k 0 - 1) 0 && m.ids.getD k 0 != 0))
  && ((List.range 7).all fun c => (List.range 7).all fun d => c == 0 || d == 0 || !(ds.getD (a.getD c 0 - 1) 0 == ds.getD (a.getD d 0 - 1) 0 && Nat.blt (a.getD c 0) (a.getD d 0)) || Nat.blt c d)
  && ((toksN (a.tail.map (· - 1)) 7 0).map (fun o => o.map fun k => m.ids.getD k 0)) == t
  && (((List.range 7).filter fun k => k != 0 && lastB a k).map fun k => a.getD k 0 - 1).isPerm ((List.range 7).filter (innerB a))
theorem chk_000 : ∀ (a5 : Fin 5) (a6 : Fin 6), check [0, 0, 0, 0, a5.1, a6.1] = true := by decide +kernel
theorem chk_001 : ∀ (a5 : Fin 5) (a6 : Fin 6), check [0, 0, 0, 1, a5.1, a6.1] = true := by decide +kernel
theorem chk_002 : ∀ (a5 : Fin 5) (a6 : Fin 6), check [0, 0, 0, 2, a5.1, a6.1] = true := by decide +kernel
theorem chk_003 : ∀ (a5 : Fin 5) (a6 : Fin 6), check [0, 0, 0, 3, a5.1, a6.1] = true := by decide +kernel
theorem chk_010 : ∀ (a5 : Fin 5) (a6 : Fin 6), check [0, 0, 1, 0, a5.1, a6.1] = true := by decide +kernel
theorem chk_011 : ∀ (a5 : Fin 5) (a6 : Fin 6), check [0, 0, 1, 1, a5.1, a6.1] = true := by decide +kernel
theorem chk_012 : ∀ (a5 : Fin 5) (a6 : Fin 6), check [0, 0, 1, 2, a5.1, a6.1] = true := by decide +kernel
theorem chk_013 : ∀ (a5 : Fin 5) (a6 : Fin 6), check [0, 0, 1, 3, a5.1, a6.1] = true := by decide +kernel
theorem chk_020 : ∀ (a5 : Fin 5) (a6 : Fin 6), check [0, 0, 2, 0, a5.1, a6.1] = true := by decide +kernel
theorem chk_021 : ∀ (a5 : Fin 5) (a6 : Fin 6), check [0, 0, 2, 1, a5.1, a6.1] = true := by decide +kernel
theorem chk_022 : ∀ (a5 : Fin 5) (a6 : Fin 6), check [0, 0, 2, 2, a5.1, a6.1] = true := by decide +kernel
theorem chk_023 : ∀ (a5 : Fin 5) (a6 : Fin 6), check [0, 0, 2, 3, a5.1, a6.1] = true := by decide +kernel
theorem chk_100 : ∀ (a5 : Fin 5) (a6 : Fin 6), check [0, 1, 0, 0, a5.1, a6.1] = true := by decide +kernel
theorem chk_101 : ∀ (a5 : Fin 5) (a6 : Fin 6), check [0, 1, 0, 1, a5.1, a6.1] = true := by decide +kernel
theorem chk_102 : ∀ (a5 : Fin 5) (a6 : Fin 6), check [0, 1, 0, 2, a5.1, a6.1] = true := by decide +kernel
theorem chk_103 : ∀ (a5 : Fin 5) (a6 : Fin 6), check [0, 1, 0, 3, a5.1, a6.1] = true := by decide +kernel
theorem chk_110 : ∀ (a5 : Fin 5) (a6 : Fin 6), check [0, 1, 1, 0, a5.1, a6.1] = true := by decide +kernel
theorem chk_111 : ∀ (a5 : Fin 5) (a6 : Fin 6), check [0, 1, 1, 1, a5.1, a6.1] = true := by decide +kernel
theorem chk_112 : ∀ (a5 : Fin 5) (a6 : Fin 6), check [0, 1, 1, 2, a5.1, a6.1] = true := by decide +kernel
theorem chk_113 : ∀ (a5 : Fin 5) (a6 : Fin 6), check [0, 1, 1, 3, a5.1, a6.1] = true := by decide +kernel
theorem chk_120 : ∀ (a5 : Fin 5) (a6 : Fin 6), check [0, 1, 2, 0, a5.1, a6.1] = true := by decide +kernel
theorem chk_121 : ∀ (a5 : Fin 5) (a6 : Fin 6), check [0, 1, 2, 1, a5.1, a6.1] = true := by decide +kernel
theorem chk_122 : ∀ (a5 : Fin 5) (a6 : Fin 6), check [0, 1, 2, 2, a5.1, a6.1] = true := by decide +kernel
theorem chk_123 : ∀ (a5 : Fin 5) (a6 : Fin 6), check [0, 1, 2, 3, a5.1, a6.1] = true := by decide +kernel
theorem check_all : ∀ (a2 : Fin 2) (a3 : Fin 3) (a4 : Fin 4) (a5 : Fin 5) (a6 : Fin 6), check [0, a2.1, a3.1, a4.1, a5.1, a6.1] = true := by
  intro a2 a3 a4
  match a2, a3, a4 with
  | ⟨0, _⟩, ⟨0, _⟩, ⟨0, _⟩ => exact chk_000
  | ⟨0, _⟩, ⟨0, _⟩, ⟨1, _⟩ => exact chk_001
  | ⟨0, _⟩, ⟨0, _⟩, ⟨2, _⟩ => exact chk_002
  | ⟨0, _⟩, ⟨0, _⟩, ⟨3, _⟩ => exact chk_003
  | ⟨0, _⟩, ⟨1, _⟩, ⟨0, _⟩ => exact chk_010
  | ⟨0, _⟩, ⟨1, _⟩, ⟨1, _⟩ => exact chk_011
  | ⟨0, _⟩, ⟨1, _⟩, ⟨2, _⟩ => exact chk_012
  | ⟨0, _⟩, ⟨1, _⟩, ⟨3, _⟩ => exact chk_013
  | ⟨0, _⟩, ⟨2, _⟩, ⟨0, _⟩ => exact chk_020
  | ⟨0, _⟩, ⟨2, _⟩, ⟨1, _⟩ => exact chk_021
  | ⟨0, _⟩, ⟨2, _⟩, ⟨2, _⟩ => exact chk_022
  | ⟨0, _⟩, ⟨2, _⟩, ⟨3, _⟩ => exact chk_023
  | ⟨1, _⟩, ⟨0, _⟩, ⟨0, _⟩ => exact chk_100
  | ⟨1, _⟩, ⟨0, _⟩, ⟨1, _⟩ => exact chk_101
  | ⟨1, _⟩, ⟨0, _⟩, ⟨2, _⟩ => exact chk_102
  | ⟨1, _⟩, ⟨0, _⟩, ⟨3, _⟩ => exact chk_103
  | ⟨1, _⟩, ⟨1, _⟩, ⟨0, _⟩ => exact chk_110
  | ⟨1, _⟩, ⟨1, _⟩, ⟨1, _⟩ => exact chk_111
  | ⟨1, _⟩, ⟨1, _⟩, ⟨2, _⟩ => exact chk_112
  | ⟨1, _⟩, ⟨1, _⟩, ⟨3, _⟩ => exact chk_113
  | ⟨1, _⟩, ⟨2, _⟩, ⟨0, _⟩ => exact chk_120
  | ⟨1, _⟩, ⟨2, _⟩, ⟨1, _⟩ => exact chk_121
  | ⟨1, _⟩, ⟨2, _⟩, ⟨2, _⟩ => exact chk_122
  | ⟨1, _⟩, ⟨2, _⟩, ⟨3, _⟩ => exact chk_123
end Mine
end

section
open PySem PySem.W PyProof.Rows PySem.Calls PySem.Spec
namespace Mine
abbrev cpl (x : PySem.Str) : List Nat := x.cps.toList
theorem cpl_app (x y : PySem.Str) : cpl (x ++ y) = cpl x ++ cpl y := by
  show (x.cps ++ y.cps).toList = _
  simp
theorem cpl_ext {x y : PySem.Str} (h : cpl x = cpl y) : x = y := by
  cases x; cases y
  simpa using h
theorem cpl_len (x : PySem.Str) : x.length = (cpl x).length := rfl
theorem cpl_nil : cpl (Str.ofString "") = [] := by decide
theorem cpl_join (l : List PySem.Str) : cpl (Txt.join (Str.ofString "") l) = l.flatMap cpl := by
  unfold Txt.join
  rw [StrLaws.glued_eq_join]
  induction l with
  | nil => rfl
  | cons a r ih =>
    cases r with
    | nil => simp [Str.join]
    | cons b r =>
      rw [Str.join, cpl_app, cpl_app, ih, cpl_nil]
      simp
      intro h; cases h
theorem cpl_slice {x : PySem.Str} {i j : Nat} (h : i ≤ j) (h2 : j ≤ x.length) : cpl (Txt.slice x (some (i : Int)) (some (j : Int))) = ((cpl x).take j).drop i := by
  have := eq_of_beq (slice_closesL (x := x) (i := (i : Int)) (j := (j : Int)) (by (first | exact om270 | omega)) (by (first | exact om296 h | omega)) (by (first | exact om296 h2 | omega)))
  rw [this, List.drop_take]
  simp
theorem cpl_slice_from {x : PySem.Str} {i : Nat} (h : i ≤ x.length) : cpl (Txt.slice x (some (i : Int)) none) = (cpl x).drop i := by
  have := eq_of_beq (slice_closes_fromL (x := x) (i := (i : Int)) (b := (x.length : Nat)) (by (first | exact om270 | omega)) (by (first | exact om296 h | omega)) rfl)
  rw [this]
  show List.take _ _ = _
  rw [Int.toNat_natCast, List.take_of_length_le]
  rw [List.length_drop, ← cpl_len]
  (first | exact om297 h | omega)
theorem is_bs (c : Nat) : ((⟨#[c]⟩ : PySem.Str) = Str.ofString "\\") ↔ c = 92 := by
  rw [show Str.ofString "\\" = ⟨#[92]⟩ by decide]
  simp
/-- a piece of text at whose end no mark is open -/
noncomputable def EscOk (c : List Nat) : Prop := ∀ r j, unitsF (c ++ r) j false = unitsF c j false ++ unitsF r (j + c.length) false
theorem EscOk.nil : EscOk [] := fun r j => by simp [unitsF]
theorem EscOk.one {c : Nat} (h : c ≠ 92) : EscOk [c] := fun r j => by simp [unitsF, is_bs, h]
theorem EscOk.two (c : Nat) : EscOk [92, c] := fun r j => by simp [unitsF, is_bs]
theorem EscOk.app {c d : List Nat} (h1 : EscOk c) (h2 : EscOk d) : EscOk (c ++ d) := fun r j => by
  rw [List.append_assoc, h1, h2, h1, List.length_append, List.append_assoc, Nat.add_assoc]
theorem EscOk.cons {c : Nat} {d : List Nat} (h : c ≠ 92) (h2 : EscOk d) : EscOk (c :: d) := EscOk.app (EscOk.one h) h2
theorem units_cons {c : Nat} {d : List Nat} (h : c ≠ 92) (j : Nat) : unitsF (c :: d) j false = (j, ⟨#[c]⟩) :: unitsF d (j + 1) false := by simp [unitsF, is_bs, h]
theorem units_two (c : Nat) (d : List Nat) (j : Nat) : unitsF (92 :: c :: d) j false = (j + 1, Str.ofString "\\" ++ ⟨#[c]⟩) :: unitsF d (j + 2) false := by simp [unitsF, is_bs]
/-- no bare quotation mark among the units -/
noncomputable def NoQ (c : List Nat) : Prop := ∀ j, ∀ u ∈ unitsF c j false, u.2 ≠ Str.ofString "\""
theorem NoQ.nil : NoQ [] := fun j u h => by simp [unitsF] at h
theorem NoQ.cons {c : Nat} {d : List Nat} (h : c ≠ 92) (h1 : c ≠ 34) (h2 : NoQ d) : NoQ (c :: d) := fun j u hu => by
  rw [units_cons h] at hu
  rcases List.mem_cons.mp hu with rfl | hu
  · rw [show Str.ofString "\"" = ⟨#[34]⟩ by decide]
    simp [h1]
  · exact h2 _ u hu
theorem NoQ.two {c : Nat} {d : List Nat} (h2 : NoQ d) : NoQ (92 :: c :: d) := fun j u hu => by
  rw [units_two] at hu
  rcases List.mem_cons.mp hu with rfl | hu
  · intro e
    have := congrArg Str.length e
    rw [Str.length_append] at this
    revert this
    rw [show (Str.ofString "\\").length = 1 by decide, show (Str.ofString "\"").length = 1 by decide]
    show ¬ (1 + 1 = 1)
    decide
  · exact h2 _ u hu
theorem NoQ.app {c d : List Nat} (h : EscOk c) (h1 : NoQ c) (h2 : NoQ d) : NoQ (c ++ d) := fun j u hu => by
  rw [h] at hu
  rcases List.mem_append.mp hu with hu | hu
  · exact h1 _ u hu
  · exact h2 _ u hu
/-- the strip's state behind the first n signs: what it holds by now -/
noncomputable def SInv (x : PySem.Str) (n : Nat) (out : List Nat) (σ : StripSt) : Prop :=
  ∃ st : Nat, σ.1 = (st : Int) ∧ st ≤ n ∧ σ.2.1 = none ∧ σ.2.2.flatMap cpl ++ ((cpl x).take n).drop st = out
theorem strip_still {x : PySem.Str} : ∀ {us : List (Nat × PySem.Str)} (σ : StripSt), (∀ u ∈ us, u.2 ≠ Str.ofString "\"") → us.foldl (stripStep x) σ = σ
  | [], _, _ => rfl
  | u :: us, σ, h => by
    rw [List.foldl_cons, show stripStep x σ u = σ by unfold stripStep; rw [if_neg (h u (.head _))]]
    exact strip_still σ fun v hv => h v (.tail _ hv)
theorem SInv.plain {x : PySem.Str} {p c r out : List Nat} {σ : StripSt} (hx : cpl x = p ++ c ++ r) (h : SInv x p.length out σ) (hq : NoQ c) :
    SInv x (p ++ c).length (out ++ c) ((unitsF c p.length false).foldl (stripStep x) σ) := by
  rw [strip_still σ (hq _)]
  obtain ⟨st, h1, h2, h3, h4⟩ := h
  refine ⟨st, h1, by rw [List.length_append]; (first | exact om280 h2 | omega), h3, ?_⟩
  rw [← h4, hx]
  rw [List.take_left' rfl]
  rw [show (p ++ c ++ r).take p.length = p by simp [List.append_assoc]]
  rw [List.drop_append_of_le_length h2, List.append_assoc]
theorem SInv.quoted {x : PySem.Str} {p m r out : List Nat} {σ : StripSt} (hx : cpl x = p ++ (34 :: m ++ [34]) ++ r) (h : SInv x p.length out σ) (he : EscOk m) (hq : NoQ m) :
    SInv x (p ++ (34 :: m ++ [34])).length out ((unitsF (34 :: m ++ [34]) p.length false).foldl (stripStep x) σ) := by
  obtain ⟨st, h1, h2, h3, h4⟩ := h
  have hlen : x.length = p.length + (m.length + 2) + r.length := by rw [cpl_len, hx]; simp; (first | exact om298 | omega)
  rw [List.cons_append, units_cons (by decide), he, List.foldl_cons, List.foldl_append, units_cons (by decide)]
  rw [show stripStep x σ (p.length, ⟨#[34]⟩) = (σ.1, some (p.length : Int), σ.2.2) by
    unfold stripStep
    rw [if_pos (by show (⟨#[34]⟩ : PySem.Str) = _; decide), h3]]
  rw [strip_still _ (hq _)]
  rw [show unitsF [] (p.length + 1 + m.length + 1) false = [] by simp [unitsF], List.foldl_cons, List.foldl_nil]
  unfold stripStep
  rw [if_pos (by show (⟨#[34]⟩ : PySem.Str) = _; decide)]
  refine ⟨p.length + 1 + m.length + 1, by simp, by simp; (first | exact om299 | omega), rfl, ?_⟩
  dsimp only
  rw [List.drop_of_length_le (by simp; (first | exact om300 hlen | omega)), List.append_nil, ← h4, h1]
  have e : ((cpl x).take p.length).drop st = cpl (Txt.slice x (some (st : Int)) (some (p.length : Int))) := (cpl_slice h2 (by (first | exact om301 hlen | omega))).symm
  by_cases hne : st = p.length
  · rw [if_neg (by simp [hne]), hne, List.drop_of_length_le (by simp; (first | exact om302 hlen | omega))]
    simp
  · rw [if_pos (by (first | exact om303 hlen hne | omega)), List.flatMap_append, e]
    simp
/-- a chunk of a line: bare, or between two quotation marks -/
noncomputable def ChOk : Bool × List Nat → Prop
  | (false, c) => EscOk c ∧ NoQ c
  | (true, c) => ∃ m, c = 34 :: m ++ [34] ∧ EscOk m ∧ NoQ m
noncomputable def kept (c : Bool × List Nat) : List Nat := if c.1 = true then [] else c.2
theorem ChOk.esc {c : Bool × List Nat} (h : ChOk c) : EscOk c.2 := by
  obtain ⟨b, c⟩ := c
  cases b with
  | false => exact h.1
  | true =>
    obtain ⟨m, rfl, h1, _⟩ := h
    exact EscOk.app (c := 34 :: m) (EscOk.cons (by decide) h1) (EscOk.one (by decide))
theorem chunks_esc : ∀ {chs : List (Bool × List Nat)}, (∀ c ∈ chs, ChOk c) → EscOk (chs.flatMap (·.2))
  | [], _ => EscOk.nil
  | c :: r, h => by
    rw [List.flatMap_cons]
    exact EscOk.app (h c (.head _)).esc (chunks_esc fun d hd => h d (.tail _ hd))
theorem strip_chunks {x : PySem.Str} : ∀ {chs : List (Bool × List Nat)} {p r out : List Nat} {σ : StripSt}, (∀ c ∈ chs, ChOk c) → cpl x = p ++ chs.flatMap (·.2) ++ r → SInv x p.length out σ →
    SInv x (p ++ chs.flatMap (·.2)).length (out ++ chs.flatMap kept) ((unitsF (chs.flatMap (·.2)) p.length false).foldl (stripStep x) σ)
  | [], p, r, out, σ, _, _, h => by simpa [unitsF] using h
  | c :: cs, p, r, out, σ, hc, hx, h => by
    have h1 := hc c (.head _)
    have h2 : ∀ d ∈ cs, ChOk d := fun d hd => hc d (.tail _ hd)
    rw [List.flatMap_cons, List.flatMap_cons, h1.esc, List.foldl_append, ← List.append_assoc, ← List.append_assoc, ← List.length_append]
    refine strip_chunks (p := p ++ c.2) h2 (r := r) (by rw [hx, List.flatMap_cons]; simp [List.append_assoc]) ?_
    obtain ⟨b, c⟩ := c
    cases b with
    | false => exact h.plain (r := cs.flatMap (·.2) ++ r) (by rw [hx, List.flatMap_cons]; simp [List.append_assoc]) h1.2
    | true =>
      obtain ⟨m, rfl, h3, h4⟩ := h1
      rw [show kept (true, 34 :: m ++ [34]) = [] from rfl, List.append_nil]
      exact h.quoted (r := cs.flatMap (·.2) ++ r) (by rw [hx, List.flatMap_cons]; simp [List.append_assoc]) h3 h4
theorem occ_quote (x : PySem.Str) : (Builtin.Str.occurrences x (Str.ofString "\"") 0 x.length 1).isEmpty = decide (34 ∉ cpl x) := by
  have := StrLaws.found_one x 34
  rw [show Str.ofString "\"" = ⟨#[34]⟩ by decide]
  cases h : (Builtin.Str.occurrences x ⟨#[34]⟩ 0 x.length 1).isEmpty <;> rw [h] at this <;> simp at this <;> simp [this]
theorem SInv.start (x : PySem.Str) : SInv x ([] : List Nat).length [] (0, none, []) := ⟨0, rfl, Nat.le_refl _, rfl, by simp⟩
theorem cpl_strip {x : PySem.Str} {chs : List (Bool × List Nat)} (hc : ∀ c ∈ chs, ChOk c) (hx : cpl x = chs.flatMap (·.2)) : cpl (stripF x) = chs.flatMap kept := by
  unfold stripF
  rw [occ_quote]
  split
  · next h =>
    have hno : 34 ∉ cpl x := by simpa using h
    rw [hx] at hno ⊢
    clear h hx
    induction chs with
    | nil => rfl
    | cons c r ih =>
      rw [List.flatMap_cons] at hno ⊢
      rw [List.flatMap_cons, ih (fun d hd => hc d (.tail _ hd)) (fun hm => hno (List.mem_append_right _ hm))]
      congr 1
      obtain ⟨b, c⟩ := c
      cases b with
      | false => rfl
      | true =>
        obtain ⟨m, rfl, _⟩ := hc _ (.head _)
        exact absurd (List.mem_append_left _ (by simp)) hno
  · rw [cpl_join]
    have h := strip_chunks (x := x) (p := []) (r := []) hc (by simpa using hx) (SInv.start x)
    rw [List.nil_append, List.nil_append, ← hx, List.length_nil] at h
    obtain ⟨st, h1, h2, h3, h4⟩ := h
    unfold stripEnd stripSt unitsOf
    rw [List.take_of_length_le (Nat.le_refl _)] at h4
    rw [h1]
    split
    · next hlt =>
      rw [List.flatMap_append, ← h4]
      congr 1
      rw [List.flatMap_cons, List.flatMap_nil, List.append_nil]
      exact cpl_slice_from (by (first | exact om304 hlt | omega))
    · next hlt =>
      rw [← h4, List.drop_of_length_le (by rw [← cpl_len]; (first | exact om305 hlt | omega)), List.append_nil]
end Mine
end

section
open PySem PySem.W PyProof.Rows PySem.Calls PySem.Spec
namespace Mine
/-- a name: signs that are no bracket, no mark, no backslash -/
noncomputable def Word (w : List Nat) : Prop := ∀ c ∈ w, c ≠ 92 ∧ c ≠ 34 ∧ c ≠ 40 ∧ c ≠ 41
theorem Word.esc : ∀ {w : List Nat}, Word w → EscOk w
  | [], _ => EscOk.nil
  | c :: r, h => EscOk.cons (h c (.head _)).1 (Word.esc fun d hd => h d (.tail _ hd))
theorem Word.noq : ∀ {w : List Nat}, Word w → NoQ w
  | [], _ => NoQ.nil
  | c :: r, h => NoQ.cons (h c (.head _)).1 (h c (.head _)).2.1 (Word.noq fun d hd => h d (.tail _ hd))
/-- a piece in which the reader sees no bracket: its chunks, and what the strip keeps of it -/
structure Piece (p : List Nat) (k : List Nat) : Prop where
  mk ::
  all : (p = [] ∧ k = []) ∨ (p = [92, 92] ∧ k = [92, 92]) ∨ (p = [34, 41, 34] ∧ k = []) ∨ (p = [92, 34, 92, 40] ∧ k = [92, 34, 92, 40]) ∨ (p = [34, 92, 34, 40, 34] ∧ k = [])
theorem Piece.chunk {p k : List Nat} (h : Piece p k) : ∃ c : Bool × List Nat, ChOk c ∧ c.2 = p ∧ kept c = k := by
  rcases h.all with ⟨rfl, rfl⟩ | ⟨rfl, rfl⟩ | ⟨rfl, rfl⟩ | ⟨rfl, rfl⟩ | ⟨rfl, rfl⟩
  · exact ⟨(false, []), ⟨EscOk.nil, NoQ.nil⟩, rfl, rfl⟩
  · exact ⟨(false, [92, 92]), ⟨EscOk.two 92, NoQ.two NoQ.nil⟩, rfl, rfl⟩
  · exact ⟨(true, [34, 41, 34]), ⟨[41], rfl, EscOk.one (by decide), NoQ.cons (by decide) (by decide) NoQ.nil⟩, rfl, rfl⟩
  · exact ⟨(false, [92, 34, 92, 40]), ⟨EscOk.app (EscOk.two 34) (EscOk.two 40), NoQ.two (NoQ.two NoQ.nil)⟩, rfl, rfl⟩
  · exact ⟨(true, [34, 92, 34, 40, 34]), ⟨[92, 34, 40], rfl, EscOk.app (EscOk.two 34) (EscOk.one (by decide)), NoQ.two (NoQ.cons (by decide) (by decide) NoQ.nil)⟩, rfl, rfl⟩
/-- a token's text -/
noncomputable def tokS (wd pc : Nat → List Nat) : Option Nat → List Nat
  | some n => 40 :: wd n ++ pc n
  | none => [41]
theorem tok_chunks {wd pc pk : Nat → List Nat} (hw : ∀ n, Word (wd n)) (hp : ∀ n, Piece (pc n) (pk n)) : ∀ ts : List (Option Nat), ∃ chs : List (Bool × List Nat), (∀ c ∈ chs, ChOk c) ∧ chs.flatMap (·.2) = ts.flatMap (tokS wd pc) ∧ chs.flatMap kept = ts.flatMap (tokS wd pk)
  | [] => ⟨[], fun _ h => absurd h List.not_mem_nil, rfl, rfl⟩
  | none :: r => by
    obtain ⟨chs, h1, h2, h3⟩ := tok_chunks hw hp r
    refine ⟨(false, [41]) :: chs, ?_, ?_, ?_⟩
    · intro c hc
      rcases List.mem_cons.mp hc with rfl | hc
      · exact ⟨EscOk.one (by decide), NoQ.cons (by decide) (by decide) NoQ.nil⟩
      · exact h1 c hc
    · rw [List.flatMap_cons, List.flatMap_cons, h2]; rfl
    · rw [List.flatMap_cons, List.flatMap_cons, h3]; rfl
  | some n :: r => by
    obtain ⟨chs, h1, h2, h3⟩ := tok_chunks hw hp r
    obtain ⟨c0, g1, g2, g3⟩ := (hp n).chunk
    refine ⟨(false, 40 :: wd n) :: c0 :: chs, ?_, ?_, ?_⟩
    · intro c hc
      rcases List.mem_cons.mp hc with rfl | hc
      · exact ⟨EscOk.cons (by decide) (hw n).esc, NoQ.cons (by decide) (by decide) (hw n).noq⟩
      rcases List.mem_cons.mp hc with rfl | hc
      · exact g1
      · exact h1 c hc
    · rw [List.flatMap_cons, List.flatMap_cons, List.flatMap_cons, h2, g2, ← List.append_assoc]; rfl
    · rw [List.flatMap_cons, List.flatMap_cons, List.flatMap_cons, h3, g3, ← List.append_assoc]; rfl
theorem strip_toks {x : PySem.Str} {wd pc pk : Nat → List Nat} (hw : ∀ n, Word (wd n)) (hp : ∀ n, Piece (pc n) (pk n)) {ts : List (Option Nat)} (hx : cpl x = ts.flatMap (tokS wd pc)) : cpl (stripF x) = ts.flatMap (tokS wd pk) := by
  obtain ⟨chs, h1, h2, h3⟩ := tok_chunks hw hp ts
  rw [← h3]
  exact cpl_strip h1 (hx.trans h2.symm)
/-- the reader's step at each kind of unit -/
theorem one_is (c : Nat) : (⟨#[c]⟩ : PySem.Str).length = 1 := rfl
theorem read_open {c : RdSt} {j : Nat} {o : Int} (hs : c.size = (j : Int)) (ho : c.opens.getLast? = some o) :
    readStep c (j, ⟨#[40]⟩) = some ⟨c.above ++ [o], c.words ++ [Str.ofString ""], c.opens ++ [(c.words.length : Int)], (j + 1 : Nat)⟩ := by
  unfold readStep
  rw [if_neg (by rw [one_is, hs]; show ¬ ((j : Int) ≠ _); (first | exact om306 | omega)), ho]
  dsimp only
  rw [if_pos (by decide), hs]
  rfl
theorem read_close {c : RdSt} {j : Nat} {o : Int} (hs : c.size = (j : Int)) (ho : c.opens.getLast? = some o) :
    readStep c (j, ⟨#[41]⟩) = some ⟨c.above, c.words, c.opens.dropLast, (j + 1 : Nat)⟩ := by
  unfold readStep
  rw [if_neg (by rw [one_is, hs]; show ¬ ((j : Int) ≠ _); (first | exact om306 | omega)), ho]
  dsimp only
  rw [if_neg (by decide), if_pos (by decide), hs]
  rfl
theorem read_sign {c : RdSt} {j d : Nat} {ws : List PySem.Str} {y : PySem.Str} {os : List Int} (hd : d ≠ 40 ∧ d ≠ 41) (hs : c.size = (j : Int)) (hw : c.words = ws ++ [y]) (ho : c.opens = os ++ [(ws.length : Int)]) :
    readStep c (j, ⟨#[d]⟩) = some ⟨c.above, ws ++ [y ++ ⟨#[d]⟩], c.opens, (j + 1 : Nat)⟩ := by
  unfold readStep
  rw [if_neg (by rw [one_is, hs]; show ¬ ((j : Int) ≠ _); (first | exact om306 | omega)), ho]
  rw [List.getLast?_concat]
  dsimp only
  rw [if_neg (by rw [show Str.ofString "(" = ⟨#[40]⟩ by decide]; simp [hd.1]), if_neg (by rw [show Str.ofString ")" = ⟨#[41]⟩ by decide]; simp [hd.2]), if_pos (one_is d), hw]
  rw [if_pos (by simp), hs]
  simp [one_is]
theorem read_two {c : RdSt} {j d : Nat} {o : Int} (hs : c.size = (j : Int)) (ho : c.opens.getLast? = some o) :
    readStep c (j + 1, Str.ofString "\\" ++ ⟨#[d]⟩) = some ⟨c.above, c.words, c.opens, (j + 2 : Nat)⟩ := by
  have e : (Str.ofString "\\" ++ (⟨#[d]⟩ : PySem.Str)).length = 2 := by rw [Str.length_append]; rfl
  have n1 : Str.ofString "\\" ++ (⟨#[d]⟩ : PySem.Str) ≠ Str.ofString "(" := fun h => by have := congrArg Str.length h; rw [e] at this; revert this; decide
  have n2 : Str.ofString "\\" ++ (⟨#[d]⟩ : PySem.Str) ≠ Str.ofString ")" := fun h => by have := congrArg Str.length h; rw [e] at this; revert this; decide
  unfold readStep
  rw [if_neg (by rw [e, hs]; show ¬ (((j + 1 : Nat) : Int) ≠ _); (first | exact om307 | omega)), ho]
  dsimp only
  rw [if_neg n1, if_neg n2, if_neg (by rw [e]; decide), e, hs]
  rfl
theorem read_word {os : List Int} {ws : List PySem.Str} {ab : List Int} : ∀ (w : List Nat) (y : PySem.Str) (j : Nat), Word w →
    (unitsF w j false).foldlM readStep ⟨ab, ws ++ [y], os ++ [(ws.length : Int)], (j : Int)⟩ = some ⟨ab, ws ++ [y ++ ⟨w.toArray⟩], os ++ [(ws.length : Int)], ((j + w.length : Nat) : Int)⟩
  | [], y, j, _ => by
    rw [show y ++ (⟨([] : List Nat).toArray⟩ : PySem.Str) = y from cpl_ext (by rw [cpl_app]; simp)]
    simp [unitsF]
  | c :: r, y, j, h => by
    have hc := h c (.head _)
    rw [units_cons hc.1, List.foldlM_cons, read_sign ⟨hc.2.2.1, hc.2.2.2⟩ rfl rfl rfl]
    show (unitsF r (j + 1) false).foldlM readStep _ = _
    rw [read_word r _ (j + 1) fun d hd => h d (.tail _ hd)]
    congr 2
    · congr 2
      exact cpl_ext (by simp only [cpl_app, List.append_assoc]; rfl)
    · simp; (first | exact om308 | omega)
end Mine
end

section
open PySem PySem.W PyProof.Rows PySem.Calls PySem.Spec
namespace Mine
/-- what is kept of a piece: units of two signs each -/
noncomputable def Twos (k : List Nat) : Prop := k = [] ∨ (∃ d, k = [92, d]) ∨ ∃ d e, k = [92, d, 92, e]
theorem Piece.twos {p k : List Nat} (h : Piece p k) : Twos k := by
  rcases h.all with ⟨rfl, rfl⟩ | ⟨rfl, rfl⟩ | ⟨rfl, rfl⟩ | ⟨rfl, rfl⟩ | ⟨rfl, rfl⟩
  · exact .inl rfl
  · exact .inr (.inl ⟨_, rfl⟩)
  · exact .inl rfl
  · exact .inr (.inr ⟨_, _, rfl⟩)
  · exact .inl rfl
theorem Twos.esc {k : List Nat} (h : Twos k) : EscOk k := by
  rcases h with rfl | ⟨d, rfl⟩ | ⟨d, e, rfl⟩
  · exact EscOk.nil
  · exact EscOk.two d
  · exact EscOk.app (EscOk.two d) (EscOk.two e)
theorem read_twos {k : List Nat} (h : Twos k) {c : RdSt} {j : Nat} {o : Int} (hs : c.size = (j : Int)) (ho : c.opens.getLast? = some o) :
    (unitsF k j false).foldlM readStep c = some ⟨c.above, c.words, c.opens, ((j + k.length : Nat) : Int)⟩ := by
  rcases h with rfl | ⟨d, rfl⟩ | ⟨d, e, rfl⟩
  · cases c; dsimp only at hs; subst hs; simp [unitsF]
  · rw [units_two, List.foldlM_cons, read_two hs ho]
    simp [unitsF]
  · rw [units_two, List.foldlM_cons, read_two hs ho]
    show (unitsF [92, e] (j + 2) false).foldlM readStep _ = _
    rw [units_two, List.foldlM_cons, read_two (c := ⟨c.above, c.words, c.opens, ((j + 2 : Nat) : Int)⟩) (j := j + 2) rfl ho]
    simp [unitsF]
    (first | exact om309 | omega)
theorem read_node {w k : List Nat} (hw : Word w) (hk : Twos k) {c : RdSt} {j : Nat} {o : Int} (hs : c.size = (j : Int)) (ho : c.opens.getLast? = some o) :
    (unitsF (40 :: w ++ k) j false).foldlM readStep c = some ⟨c.above ++ [o], c.words ++ [⟨w.toArray⟩], c.opens ++ [(c.words.length : Int)], ((j + (40 :: w ++ k).length : Nat) : Int)⟩ := by
  rw [List.cons_append, units_cons (by decide), List.foldlM_cons, read_open hs ho]
  show (unitsF (w ++ k) (j + 1) false).foldlM readStep _ = _
  rw [hw.esc, List.foldlM_append, read_word w _ _ hw]
  show (unitsF k (j + 1 + w.length) false).foldlM readStep _ = _
  rw [read_twos hk (o := (c.words.length : Int)) rfl (by rw [List.getLast?_concat])]
  congr 2
  · show c.words ++ [Str.ofString "" ++ (⟨w.toArray⟩ : PySem.Str)] = _
    congr 2
    exact cpl_ext (by rw [cpl_app, cpl_nil]; rfl)
  · simp; (first | exact om310 | omega)
/-- the reader's state and the tokens' machine -/
structure RelM (wd : Nat → List Nat) (m : Mach) (c : RdSt) : Prop where
  par : c.above = m.par.map fun k : Nat => (k : Int) - 1
  ids : c.words = m.ids.map fun n => ⟨(wd n).toArray⟩
  opens : c.opens = m.opens.reverse.map fun k : Nat => (k : Int) - 1
theorem read_toks {wd pk : Nat → List Nat} (hw : ∀ n, Word (wd n)) (hk : ∀ n, Twos (pk n)) : ∀ (ts : List (Option Nat)) (d : Nat) (m : Mach) (c : RdSt) (j : Nat), RelM wd m c → c.size = (j : Int) → m.opens.length = d + 1 → stacksOk ts d = true →
    ∃ c', (unitsF (ts.flatMap (tokS wd pk)) j false).foldlM readStep c = some c' ∧ RelM wd (ts.foldl machStep m) c'
  | [], d, m, c, j, R, _, _, _ => ⟨c, by simp [unitsF], R⟩
  | t :: r, d, m, c, j, R, hs, hl, hok => by
    obtain ⟨o, os, hos⟩ : ∃ o os, m.opens = o :: os := by
      cases h : m.opens with
      | nil => rw [h] at hl; simp at hl
      | cons o os => exact ⟨o, os, rfl⟩
    have ho : c.opens = (os.reverse.map fun k : Nat => (k : Int) - 1) ++ [(o : Int) - 1] := by rw [R.opens, hos]; simp
    have hlast : c.opens.getLast? = some ((o : Int) - 1) := by rw [ho, List.getLast?_concat]
    cases t with
    | none =>
      rw [List.flatMap_cons, show tokS wd pk none = [41] from rfl, List.singleton_append, units_cons (by decide), List.foldlM_cons, read_close hs hlast, List.foldl_cons]
      show ∃ c', (unitsF (r.flatMap (tokS wd pk)) (j + 1) false).foldlM readStep _ = _ ∧ _
      cases d with
      | zero => simp [stacksOk] at hok
      | succ d =>
        refine read_toks hw hk r d _ _ (j + 1) ⟨R.par, R.ids, ?_⟩ rfl ?_ hok
        · show c.opens.dropLast = _
          rw [ho, List.dropLast_concat]
          show _ = m.opens.tail.reverse.map _
          rw [hos]
          rfl
        · show m.opens.tail.length = _
          rw [List.length_tail, hl]
          rfl
    | some n =>
      have he : EscOk (40 :: wd n ++ pk n) := EscOk.app (c := 40 :: wd n) (EscOk.cons (by decide) (hw n).esc) (hk n).esc
      rw [List.flatMap_cons, show tokS wd pk (some n) = 40 :: wd n ++ pk n from rfl, he, List.foldlM_append, read_node (hw n) (hk n) hs hlast, List.foldl_cons]
      show ∃ c', (unitsF (r.flatMap (tokS wd pk)) (j + (40 :: wd n ++ pk n).length) false).foldlM readStep _ = _ ∧ _
      refine read_toks hw hk r (d + 1) _ _ _ ⟨?_, ?_, ?_⟩ rfl ?_ hok
      · show c.above ++ _ = (m.par ++ [m.opens.headD 0]).map _
        rw [R.par, hos]
        simp
      · show c.words ++ _ = (m.ids ++ [n]).map _
        rw [R.ids]
        simp
      · show c.opens ++ _ = ((m.ids.length + 1) :: m.opens).reverse.map _
        rw [R.opens, R.ids]
        simp
      · show ((m.ids.length + 1) :: m.opens).length = _
        rw [List.length_cons, hl]
theorem read_all {wd pk : Nat → List Nat} (hw : ∀ n, Word (wd n)) (hk : ∀ n, Twos (pk n)) {y : PySem.Str} {ts : List (Option Nat)} (hy : cpl y = ts.flatMap (tokS wd pk)) (hok : stacksOk ts 0 = true) :
    ∃ c', readSt (unitsOf y) = some c' ∧ RelM wd (machOf ts) c' := by
  unfold readSt unitsOf
  show ∃ c', (unitsF (cpl y) 0 false).foldlM readStep _ = _ ∧ _
  rw [hy]
  exact read_toks hw hk ts 0 ⟨[], [], [0]⟩ ⟨[], [], [-1], 0⟩ 0 ⟨rfl, rfl, rfl⟩ rfl rfl hok
/-- the drawn line by its tokens -/
theorem lineUpTo_cpl {ab : List Int} {wd pc : List PySem.Str} {q : List Nat} (hab : ab = -1 :: q.map fun k : Nat => (k : Int)) (hq : q.length = 6) {f : Int → PySem.Str} {g : Nat → List (Option Nat)} (W P : Nat → List Nat) (node : Nat)
    (hW : ∀ n, W n = cpl (wd.getD n (Str.ofString ""))) (hP : ∀ n, P n = cpl (pc.getD n (Str.ofString ""))) (hf : ∀ o : Nat, cpl (f o) = (g o).flatMap (tokS W P)) :
    ∀ i, i ≤ 6 - node → cpl (lineUpTo ab wd pc f node i) = (toksUp q g node i).flatMap (tokS W P)
  | 0, _ => by
    simp only [lineUpTo, toksUp, cpl_app, List.flatMap_cons, List.flatMap_nil, List.append_nil, tokS]
    rw [hW, hP, show cpl (Str.ofString "(") = [40] by decide]
    rfl
  | i + 1, hi => by
    have hn : node + i < 6 := by (first | exact om311 hi | omega)
    have ih := lineUpTo_cpl hab hq W P node hW hP hf i (by (first | exact om312 hi | omega))
    have hg : ab.getD ((node : Int) + 1 + (i : Int)).toNat 0 = ((q.getD (node + i) 9 : Nat) : Int) := by
      rw [show ((node : Int) + 1 + (i : Int)).toNat = (node + i) + 1 by (first | exact om313 | omega), hab]
      have h6 : node + i < q.length := by (first | exact om314 hq hn | omega)
      simp [List.getD_eq_getElem?_getD, List.getElem?_cons_succ, List.getElem?_map, List.getElem?_eq_getElem h6]
    unfold lineUpTo lineStep toksUp
    rw [hg]
    by_cases e : q.getD (node + i) 9 = node
    · rw [if_pos (by (first | exact om315 e | omega)), if_pos e, cpl_app, ih, List.flatMap_append]
      congr 1
      exact hf (node + 1 + i)
    · rw [if_neg (by (first | exact om316 e | omega)), if_neg e, ih]
theorem lineF_cpl {ab : List Int} {wd pc : List PySem.Str} {q : List Nat} (hab : ab = -1 :: q.map fun k : Nat => (k : Int)) (hq : q.length = 6) (W P : Nat → List Nat)
    (hW : ∀ n, W n = cpl (wd.getD n (Str.ofString ""))) (hP : ∀ n, P n = cpl (pc.getD n (Str.ofString ""))) : ∀ (k : Nat) (node : Nat), cpl (lineF ab wd pc k node) = (toksN q k node).flatMap (tokS W P)
  | 0, node => by
    rw [lineF, toksN, cpl_nil]; rfl
  | k + 1, node => by
    unfold lineF toksN
    rw [cpl_app, List.flatMap_append, show (6 - (node : Int)).toNat = 6 - node by (first | exact om317 | omega), lineUpTo_cpl hab hq W P node hW hP (fun o => lineF_cpl hab hq W P hW hP k o) (6 - node) (Nat.le_refl _)]
    congr 1
end Mine
end

section
open PySem PySem.W PyProof.Rows PySem.Calls PySem.Spec
namespace Mine
/-- a lone mark and a lone backslash behind a line without marks -/
theorem tail_mark {p : List Nat} (he : EscOk p) (hq : NoQ p) {x : PySem.Str} (hx : cpl x = p ++ [34, 92]) : stripF x = x ∧ unitsOf x = unitsF p 0 false ++ [(p.length, Str.ofString "\""), (p.length + 1, Str.ofString "\\")] := by
  have e34 : (⟨#[34]⟩ : PySem.Str) = Str.ofString "\"" := by decide
  have hu : unitsOf x = unitsF p 0 false ++ [(p.length, Str.ofString "\""), (p.length + 1, Str.ofString "\\")] := by
    unfold unitsOf
    show unitsF (cpl x) 0 false = _
    rw [hx, he, units_cons (by decide), e34]
    simp [unitsF, is_bs]
  refine ⟨cpl_ext ?_, hu⟩
  have h34 : 34 ∈ cpl x := by rw [hx]; simp
  have hst : stripSt x (unitsOf x) = (0, some (p.length : Int), []) := by
    rw [hu]
    unfold stripSt
    rw [List.foldl_append, strip_still _ (hq 0), List.foldl_cons, List.foldl_cons, List.foldl_nil]
    unfold stripStep
    rw [if_pos rfl]
    dsimp only
    rw [if_neg (by decide)]
  unfold stripF
  rw [occ_quote, if_neg (by simp [h34]), cpl_join]
  unfold stripEnd
  rw [hst]
  have hl : 0 < x.length := by rw [cpl_len, hx]; simp
  rw [if_pos (by show (0 : Int) < _; (first | exact om318 hl | omega))]
  show ([] ++ [Txt.slice x (some ((0 : Nat) : Int)) none]).flatMap cpl = _
  rw [List.nil_append, List.flatMap_cons, List.flatMap_nil, List.append_nil, cpl_slice_from (Nat.zero_le _)]
  rfl
theorem toks_esc {wd pk : Nat → List Nat} (hw : ∀ n, Word (wd n)) : ∀ ts : List (Option Nat), (∀ n, pk n = []) → EscOk (ts.flatMap (tokS wd pk)) ∧ NoQ (ts.flatMap (tokS wd pk))
  | [], _ => ⟨EscOk.nil, NoQ.nil⟩
  | none :: r, h => by
    have ih := toks_esc hw r h
    rw [List.flatMap_cons]
    exact ⟨EscOk.app (EscOk.one (by decide)) ih.1, NoQ.app (EscOk.one (c := 41) (by decide)) (NoQ.cons (by decide) (by decide) NoQ.nil) ih.2⟩
  | some n :: r, h => by
    have ih := toks_esc hw r h
    have e : tokS wd pk (some n) = 40 :: wd n := by simp [tokS, h n]
    rw [List.flatMap_cons, e]
    exact ⟨EscOk.app (EscOk.cons (by decide) (hw n).esc) ih.1, NoQ.app (EscOk.cons (by decide) (hw n).esc) (NoQ.cons (by decide) (by decide) (hw n).noq) ih.2⟩
theorem toks_len {wd pc : Nat → List Nat} {k : Nat} (h : ∀ n, (wd n).length + (pc n).length ≤ k) : ∀ ts : List (Option Nat), (ts.flatMap (tokS wd pc)).length ≤ ts.length * (k + 1)
  | [] => Nat.zero_le _
  | t :: r => by
    have ih := toks_len h r
    rw [List.flatMap_cons, List.length_append, List.length_cons, Nat.succ_mul]
    cases t with
    | none => simp only [tokS, List.length_cons, List.length_nil]; (first | exact om319 ih | omega)
    | some n =>
      have := h n
      simp only [tokS, List.length_cons, List.length_append]
      (first | exact om320 ih this | omega)
/-- what is known of a shape: its tokens and the machine's end -/
structure ShapeIs (q : List Nat) : Prop where
  tlen : (toksN q 7 0).length = 14
  stacks : stacksOk (toksN q 7 0) 0 = true
  alen : (machOf (toksN q 7 0)).par.length = 7
  ilen : (machOf (toksN q 7 0)).ids.length = 7
  perm : (machOf (toksN q 7 0)).ids.Perm (List.range 7)
  id0 : (machOf (toksN q 7 0)).ids.getD 0 9 = 0
  a0 : (machOf (toksN q 7 0)).par.getD 0 9 = 0
  par : ∀ k, 1 ≤ k → k < 7 → 1 ≤ (machOf (toksN q 7 0)).par.getD k 0 ∧ (machOf (toksN q 7 0)).par.getD k 0 ≤ k ∧ q.getD ((machOf (toksN q 7 0)).ids.getD k 0 - 1) 9 = (machOf (toksN q 7 0)).ids.getD ((machOf (toksN q 7 0)).par.getD k 0 - 1) 0 ∧ (machOf (toksN q 7 0)).ids.getD k 0 ≠ 0
  deep : ∀ c d, 1 ≤ c → c < 7 → 1 ≤ d → d < 7 → depthOf (machOf (toksN q 7 0)).par 7 ((machOf (toksN q 7 0)).par.getD c 0 - 1) = depthOf (machOf (toksN q 7 0)).par 7 ((machOf (toksN q 7 0)).par.getD d 0 - 1) → (machOf (toksN q 7 0)).par.getD c 0 < (machOf (toksN q 7 0)).par.getD d 0 → c < d
  again : (toksN ((machOf (toksN q 7 0)).par.tail.map (· - 1)) 7 0).map (fun o => o.map fun k => (machOf (toksN q 7 0)).ids.getD k 0) = toksN q 7 0
  lasts : (((List.range 7).filter fun k => k != 0 && lastB (machOf (toksN q 7 0)).par k).map fun k => (machOf (toksN q 7 0)).par.getD k 0 - 1).Perm ((List.range 7).filter (innerB (machOf (toksN q 7 0)).par))
theorem shape_is {q : List Nat} (h : check q = true) : ShapeIs q := by
  unfold check at h
  simp only [Bool.and_eq_true, List.all_eq_true, List.mem_range, beq_iff_eq, List.isPerm_iff] at h
  obtain ⟨⟨⟨⟨⟨⟨⟨⟨⟨⟨⟨h1, h2⟩, h3⟩, h4⟩, h5⟩, h6⟩, h7⟩, h8⟩, h9⟩, h10⟩, h11⟩, h12⟩ := h
  refine ⟨h1, h2, h3, h4, h5, h6, h7, ?_, ?_, h11, h12⟩
  · intro k k0 k7
    have := h9 k k7
    simp only [Bool.or_eq_true, Bool.and_eq_true, beq_iff_eq, Nat.ble_eq, bne_iff_ne] at this
    (first | exact om321 k0 k7 this | omega)
  · intro c d c0 c7 d0 d7 e1 e2
    have := h10 c c7 d d7
    have g1 : ∀ k, k < 7 → 1 ≤ k → (machOf (toksN q 7 0)).par.getD k 0 - 1 < 7 := by
      intro k k7 k1
      have := h9 k k7
      simp only [Bool.or_eq_true, Bool.and_eq_true, beq_iff_eq, Nat.ble_eq, bne_iff_ne] at this
      (first | exact om322 k7 k1 this | omega)
    have g2 : ∀ k, k < 7 → ((List.range 7).map (depthOf (machOf (toksN q 7 0)).par 7)).getD k 0 = depthOf (machOf (toksN q 7 0)).par 7 k := by
      intro k hk
      rw [List.getD_eq_getElem?_getD, List.getElem?_map, List.getElem?_range hk]
      rfl
    rw [g2 _ (g1 c c7 c0), g2 _ (g1 d d7 d0)] at this
    simp only [Bool.or_eq_true, beq_iff_eq, Nat.blt_eq, Bool.not_eq_true', Bool.and_eq_false_iff, beq_eq_false_iff_ne] at this
    rcases this with ((rfl | rfl) | this) | this
    · (first | exact om323 c0 | omega)
    · (first | exact om324 d0 | omega)
    · rcases this with this | this
      · exact absurd e1 this
      · have := Nat.blt_eq.mpr e2
        simp_all
    · exact this
end Mine
end

section
namespace Mine
/-! lists of numbers in the order of texts -/
theorem nl_tri : ∀ a b : List Nat, a < b ∨ a = b ∨ b < a
  | [], [] => .inr (.inl rfl)
  | [], b :: _ => .inl (List.nil_lt_cons ..)
  | a :: _, [] => .inr (.inr (List.nil_lt_cons ..))
  | a :: s, b :: t => by
    rcases Nat.lt_trichotomy a b with h | rfl | h
    · exact .inl (List.cons_lt_cons_iff.mpr (.inl h))
    · rcases nl_tri s t with h | rfl | h
      · exact .inl (List.cons_lt_cons_iff.mpr (.inr ⟨rfl, h⟩))
      · exact .inr (.inl rfl)
      · exact .inr (.inr (List.cons_lt_cons_iff.mpr (.inr ⟨rfl, h⟩)))
    · exact .inr (.inr (List.cons_lt_cons_iff.mpr (.inl h)))
theorem nl_irr (a : List Nat) : ¬ a < a := List.lt_irrefl a
theorem nl_trans {a b c : List Nat} (h : a < b) (h2 : b < c) : a < c := List.lt_trans h h2
theorem nl_asymm {a b : List Nat} (h : a < b) : ¬ b < a := fun h2 => nl_irr _ (nl_trans h h2)
noncomputable def splitB : List Nat → List Nat → Bool
  | c :: s, d :: t => if c = d then splitB s t else decide (c < d)
  | _, _ => false
theorem split_ex : ∀ {a b : List Nat}, splitB a b = true → ∃ p c d s t, a = p ++ c :: s ∧ b = p ++ d :: t ∧ c < d
  | [], _, h => by simp [splitB] at h
  | _ :: _, [], h => by simp [splitB] at h
  | c :: s, d :: t, h => by
    unfold splitB at h
    split at h
    · next e =>
      subst e
      obtain ⟨p, x, y, u, v, rfl, rfl, hlt⟩ := split_ex h
      exact ⟨c :: p, x, y, u, v, rfl, rfl, hlt⟩
    · exact ⟨[], c, d, s, t, rfl, rfl, of_decide_eq_true h⟩
theorem part_lt {p : List Nat} {c d : Nat} (h : c < d) (s t : List Nat) : p ++ c :: s < p ++ d :: t :=
  List.append_left_lt (List.cons_lt_cons_iff.mpr (.inl h))
theorem split_lt {a b : List Nat} (h : splitB a b = true) (x y : List Nat) : a ++ x < b ++ y := by
  obtain ⟨p, c, d, s, t, rfl, rfl, hlt⟩ := split_ex h
  simp only [List.append_assoc, List.cons_append]
  exact part_lt hlt _ _
theorem take_part {p : List Nat} {c : Nat} {s : List Nat} {n : Nat} (h : p.length < n) : ∃ r, (p ++ c :: s).take n = p ++ c :: r := by
  rw [List.take_append, List.take_of_length_le (by (first | exact om325 h | omega))]
  obtain ⟨k, hk⟩ : ∃ k, n - p.length = k + 1 := ⟨n - p.length - 1, by (first | exact om326 h | omega)⟩
  rw [hk]
  exact ⟨s.take k, rfl⟩
theorem split_take {a b : List Nat} (h : splitB a b = true) (x y : List Nat) {n : Nat} (hn : b.length ≤ n) : (a ++ x).take n < b ++ y := by
  obtain ⟨p, c, d, s, t, rfl, rfl, hlt⟩ := split_ex h
  simp only [List.append_assoc, List.cons_append]
  obtain ⟨r, hr⟩ := take_part (p := p) (c := c) (s := s ++ x) (n := n) (by simp at hn; (first | exact om327 hn | omega))
  rw [hr]
  exact part_lt hlt _ _
theorem take_split {a b : List Nat} (h : splitB a b = true) (x y : List Nat) {n : Nat} (hn : a.length ≤ n) : a ++ x < (b ++ y).take n := by
  obtain ⟨p, c, d, s, t, rfl, rfl, hlt⟩ := split_ex h
  simp only [List.append_assoc, List.cons_append]
  obtain ⟨r, hr⟩ := take_part (p := p) (c := d) (s := t ++ y) (n := n) (by simp at hn; (first | exact om327 hn | omega))
  rw [hr]
  exact part_lt hlt _ _
/-! counting -/
theorem count_le {p q : Nat → Bool} : ∀ {l : List Nat}, (∀ x ∈ l, p x = true → q x = true) → l.countP p ≤ l.countP q
  | [], _ => Nat.le_refl _
  | a :: r, h => by
    have ih := count_le (p := p) (q := q) (l := r) fun x hx => h x (.tail _ hx)
    have ha := h a (.head _)
    rw [List.countP_cons, List.countP_cons]
    split <;> split <;> simp_all <;> (first | exact om56 ih | omega)
theorem count_lt {p q : Nat → Bool} : ∀ {l : List Nat}, (∀ x ∈ l, p x = true → q x = true) → (∃ x ∈ l, q x = true ∧ p x = false) → l.countP p < l.countP q
  | [], _, h => by obtain ⟨x, hx, _⟩ := h; exact absurd hx List.not_mem_nil
  | a :: r, h, hw => by
    have ih := count_le (p := p) (q := q) (l := r) fun x hx => h x (.tail _ hx)
    have ha := h a (.head _)
    rw [List.countP_cons, List.countP_cons]
    obtain ⟨x, hx, h1, h2⟩ := hw
    rcases List.mem_cons.mp hx with rfl | hx
    · rw [h1, h2]; simp; (first | exact om328 ih | omega)
    · have ih2 := count_lt (p := p) (q := q) (l := r) (fun x hx => h x (.tail _ hx)) ⟨x, hx, h1, h2⟩
      split <;> split <;> simp_all <;> (first | exact om228 ih2 | omega)
theorem count_or {p q r : Nat → Bool} : ∀ {l : List Nat}, (∀ x ∈ l, r x = (p x || q x)) → (∀ x ∈ l, p x = true → q x = false) → l.countP r = l.countP p + l.countP q
  | [], _, _ => rfl
  | a :: s, h, hd => by
    have ih := count_or (p := p) (q := q) (r := r) (l := s) (fun x hx => h x (.tail _ hx)) fun x hx => hd x (.tail _ hx)
    have h1 := h a (.head _)
    have h2 := hd a (.head _)
    rw [List.countP_cons, List.countP_cons, List.countP_cons, ih, h1]
    cases ep : p a <;> cases eq : q a <;> simp_all <;> (first | exact om329 | exact om330 | omega)
/-! the tree: parents, kinds, ways -/
structure Tr (P K dp : Nat → Nat) (κ : Nat → List Nat) (L : Nat → List Nat) : Prop where
  hP : ∀ k, 1 ≤ k → k < 7 → P k < k
  hK : ∀ k, k < 7 → K k < 4
  split : ∀ i j, i < j → j < 4 → splitB (κ i) (κ j) = true
  ne : ∀ i, i < 4 → κ i ≠ []
  L0 : L 0 = []
  LS : ∀ k, 1 ≤ k → k < 7 → L k = κ (K (P k)) ++ L (P k)
  d0 : dp 0 = 0
  dS : ∀ k, 1 ≤ k → k < 7 → dp k = dp (P k) + 1
  deep : ∀ c d, 1 ≤ c → c < 7 → 1 ≤ d → d < 7 → dp (P c) = dp (P d) → P c < P d → c < d
noncomputable def precB (L : Nat → List Nat) (u v : Nat) : Bool := decide (L u < L v) || (decide (L u = L v) && decide (u < v))
theorem prec_iff {L : Nat → List Nat} {u v : Nat} : precB L u v = true ↔ L u < L v ∨ (L u = L v ∧ u < v) := by
  unfold precB
  simp
theorem prec_irr (L : Nat → List Nat) (u : Nat) : precB L u u = false := by
  cases h : precB L u u with
  | false => rfl
  | true =>
    rcases prec_iff.mp h with h | ⟨_, h⟩
    · exact absurd h (nl_irr _)
    · (first | exact om331 h | omega)
theorem prec_trans {L : Nat → List Nat} {u v w : Nat} (h : precB L u v = true) (h2 : precB L v w = true) : precB L u w = true := by
  rw [prec_iff] at h h2 ⊢
  rcases h with h | ⟨h, g⟩ <;> rcases h2 with h2 | ⟨h2, g2⟩
  · exact .inl (nl_trans h h2)
  · exact .inl (h2 ▸ h)
  · exact .inl (h ▸ h2)
  · exact .inr ⟨h.trans h2, by (first | exact om332 g g2 | omega)⟩
theorem prec_tri (L : Nat → List Nat) {u v : Nat} (h : u ≠ v) : precB L u v = true ∨ precB L v u = true := by
  rw [prec_iff, prec_iff]
  rcases nl_tri (L u) (L v) with g | g | g
  · exact .inl (.inl g)
  · rcases Nat.lt_or_ge u v with k | k
    · exact .inl (.inr ⟨g, k⟩)
    · exact .inr (.inr ⟨g.symm, by (first | exact om333 h k | omega)⟩)
  · exact .inr (.inl g)
theorem prec_asymm {L : Nat → List Nat} {u v : Nat} (h : precB L u v = true) : precB L v u = false := by
  cases e : precB L v u with
  | false => rfl
  | true => have := prec_trans h e; rw [prec_irr] at this; cases this
noncomputable def posN (L : Nat → List Nat) (u : Nat) : Nat := (List.range 7).countP fun v => precB L v u
noncomputable def kkN (P K : Nat → Nat) (L : Nat → List Nat) (u : Nat) : Nat := if u = 0 then 0 else 8 * K (P u) + posN L (P u) + 1
noncomputable def cutN (P K : Nat → Nat) (L : Nat → List Nat) (X : Nat) : Nat := (List.range 7).countP fun u => decide (kkN P K L u < X)
theorem pos_lt7 {L : Nat → List Nat} {u : Nat} (hu : u < 7) : posN L u < 7 := by
  have : (List.range 7).countP (fun v => precB L v u) < (List.range 7).countP (fun _ => true) :=
    count_lt (fun _ _ _ => rfl) ⟨u, List.mem_range.mpr hu, rfl, prec_irr L u⟩
  rw [List.countP_true, List.length_range] at this
  exact this
theorem pos_mono {L : Nat → List Nat} {u v : Nat} (hu : u < 7) (h : precB L u v = true) : posN L u < posN L v :=
  count_lt (fun _ _ hx => prec_trans hx h) ⟨u, List.mem_range.mpr hu, h, prec_irr L u⟩
theorem pos_iff {L : Nat → List Nat} {u v : Nat} (hu : u < 7) (hv : v < 7) : posN L u < posN L v ↔ precB L u v = true := by
  refine ⟨fun h => ?_, pos_mono hu⟩
  by_cases e : u = v
  · subst e; (first | exact om331 h | omega)
  · rcases prec_tri L e with g | g
    · exact g
    · have := pos_mono hv g; (first | exact om334 h this | omega)
theorem pos_inj {L : Nat → List Nat} {u v : Nat} (hu : u < 7) (hv : v < 7) (h : posN L u = posN L v) : u = v := by
  by_cases e : u = v
  · exact e
  · rcases prec_tri L e with g | g
    · have := pos_mono hu g; (first | exact om335 h this | omega)
    · have := pos_mono hv g; (first | exact om336 h this | omega)
theorem kk_pos {P K : Nat → Nat} {L : Nat → List Nat} {u : Nat} (hu : 1 ≤ u) : 1 ≤ kkN P K L u := by
  unfold kkN
  rw [if_neg (by (first | exact om337 hu | omega))]
  (first | exact om338 | omega)
section
variable {P K dp : Nat → Nat} {κ L : Nat → List Nat} (T : Tr P K dp κ L)
include T
theorem Tr.p7 {u : Nat} (h1 : 1 ≤ u) (h7 : u < 7) : P u < 7 := by have := T.hP u h1 h7; (first | exact om339 h1 h7 this | omega)
theorem Tr.kindlt {i j : Nat} (hi : i < 4) (hj : j < 4) (x y : List Nat) (hne : i ≠ j) : κ i ++ x < κ j ++ y ↔ i < j := by
  constructor
  · intro h
    rcases Nat.lt_or_ge i j with g | g
    · exact g
    · exact absurd (split_lt (T.split j i (by (first | exact om333 hne g | omega)) hi) y x) (nl_asymm h)
  · intro h
    exact split_lt (T.split i j h hj) x y
theorem Tr.lt_iff {u v : Nat} (hu : 1 ≤ u) (hu7 : u < 7) (hv : 1 ≤ v) (hv7 : v < 7) : L u < L v ↔ K (P u) < K (P v) ∨ (K (P u) = K (P v) ∧ L (P u) < L (P v)) := by
  rw [T.LS u hu hu7, T.LS v hv hv7]
  have a := T.hK _ (T.p7 hu hu7)
  have b := T.hK _ (T.p7 hv hv7)
  by_cases e : K (P u) = K (P v)
  · rw [e]
    constructor
    · intro h
      refine .inr ⟨rfl, ?_⟩
      rcases nl_tri (L (P u)) (L (P v)) with g | g | g
      · exact g
      · rw [g] at h; exact absurd h (nl_irr _)
      · exact absurd (List.append_left_lt g) (nl_asymm h)
    · rintro (h | ⟨_, h⟩)
      · (first | exact om331 h | omega)
      · exact List.append_left_lt h
  · rw [T.kindlt a b _ _ e]
    (first | exact om340 e | omega)
theorem Tr.eq_iff {u v : Nat} (hu : 1 ≤ u) (hu7 : u < 7) (hv : 1 ≤ v) (hv7 : v < 7) : L u = L v ↔ K (P u) = K (P v) ∧ L (P u) = L (P v) := by
  constructor
  · intro h
    have h1 : ¬ L u < L v := by rw [h]; exact nl_irr _
    have h2 : ¬ L v < L u := by rw [h]; exact nl_irr _
    rw [T.lt_iff hu hu7 hv hv7] at h1
    rw [T.lt_iff hv hv7 hu hu7] at h2
    have e : K (P u) = K (P v) := by (first | exact om341 h1 h2 | omega)
    refine ⟨e, ?_⟩
    rcases nl_tri (L (P u)) (L (P v)) with g | g | g
    · exact absurd (.inr ⟨e, g⟩) h1
    · exact g
    · exact absurd (.inr ⟨e.symm, g⟩) h2
  · rintro ⟨e1, e2⟩
    rw [T.LS u hu hu7, T.LS v hv hv7, e1, e2]
theorem Tr.pos_lt {u : Nat} (hu : 1 ≤ u) (hu7 : u < 7) : L 0 < L u := by
  rw [T.L0, T.LS u hu hu7]
  have := T.ne _ (T.hK _ (T.p7 hu hu7))
  cases h : κ (K (P u)) with
  | nil => exact absurd h this
  | cons a r => exact List.nil_lt_cons ..
theorem Tr.eq_dp : ∀ (n u v : Nat), u ≤ n → u < 7 → v < 7 → L u = L v → dp u = dp v := by
  intro n
  induction n with
  | zero =>
    intro u v hu _ hv h
    have : u = 0 := by (first | exact om342 hu | omega)
    subst this
    rcases Nat.eq_zero_or_pos v with rfl | hv0
    · rfl
    · have := T.pos_lt hv0 hv
      rw [h] at this
      exact absurd this (nl_irr _)
  | succ n ih =>
    intro u v hu hu7 hv h
    rcases Nat.eq_zero_or_pos u with rfl | hu0
    · rcases Nat.eq_zero_or_pos v with rfl | hv0
      · rfl
      · have := T.pos_lt hv0 hv
        rw [h] at this
        exact absurd this (nl_irr _)
    · rcases Nat.eq_zero_or_pos v with rfl | hv0
      · have := T.pos_lt hu0 hu7
        rw [h] at this
        exact absurd this (nl_irr _)
      · rw [T.dS u hu0 hu7, T.dS v hv0 hv]
        have h1 := T.hP u hu0 hu7
        rw [ih (P u) (P v) (by (first | exact om343 hu h1 | omega)) (by (first | exact om344 hu7 hu0 h1 | omega)) (T.p7 hv0 hv) ((T.eq_iff hu0 hu7 hv0 hv).mp h).2]
theorem Tr.kk_lt {u v : Nat} (hu7 : u < 7) (hv7 : v < 7) (h : kkN P K L u < kkN P K L v) : precB L u v = true := by
  rcases Nat.eq_zero_or_pos v with rfl | hv
  · simp [kkN] at h
  rcases Nat.eq_zero_or_pos u with rfl | hu
  · exact prec_iff.mpr (.inl (T.pos_lt hv hv7))
  unfold kkN at h
  rw [if_neg (by (first | exact om345 hu7 hu | omega)), if_neg (by (first | exact om345 hv7 hv | omega))] at h
  have a := pos_lt7 (L := L) (T.p7 hu hu7)
  have b := pos_lt7 (L := L) (T.p7 hv hv7)
  rw [prec_iff, T.lt_iff hu hu7 hv hv7]
  by_cases e : K (P u) = K (P v)
  · have h2 : posN L (P u) < posN L (P v) := by (first | exact om346 h e | omega)
    rw [pos_iff (T.p7 hu hu7) (T.p7 hv hv7), prec_iff] at h2
    rcases h2 with h2 | ⟨h2, h3⟩
    · exact .inl (.inr ⟨e, h2⟩)
    · refine .inr ⟨(T.eq_iff hu hu7 hv hv7).mpr ⟨e, h2⟩, T.deep u v hu hu7 hv hv7 (T.eq_dp 7 _ _ (Nat.le_of_lt (T.p7 hu hu7)) (T.p7 hu hu7) (T.p7 hv hv7) h2) h3⟩
  · exact .inl (.inl (by (first | exact om347 h a b e | omega)))
theorem Tr.kk_par {u v : Nat} (hu : 1 ≤ u) (hu7 : u < 7) (hv : 1 ≤ v) (hv7 : v < 7) (h : kkN P K L u = kkN P K L v) : P u = P v := by
  unfold kkN at h
  rw [if_neg (by (first | exact om348 hu hu7 | omega)), if_neg (by (first | exact om348 hv hv7 | omega))] at h
  have a := pos_lt7 (L := L) (T.p7 hu hu7)
  have b := pos_lt7 (L := L) (T.p7 hv hv7)
  exact pos_inj (L := L) (T.p7 hu hu7) (T.p7 hv hv7) (by (first | exact om349 h a b | omega))
theorem Tr.kk_eq {u v : Nat} (hu7 : u < 7) (hv7 : v < 7) (h : kkN P K L u = kkN P K L v) : precB L u v = true ↔ u < v := by
  have same : L u = L v := by
    rcases Nat.eq_zero_or_pos u with rfl | hu
    · rcases Nat.eq_zero_or_pos v with rfl | hv
      · rfl
      · have := kk_pos (P := P) (K := K) (L := L) hv; rw [← h] at this; simp [kkN] at this
    · rcases Nat.eq_zero_or_pos v with rfl | hv
      · have := kk_pos (P := P) (K := K) (L := L) hu; rw [h] at this; simp [kkN] at this
      · have e := T.kk_par hu hu7 hv hv7 h
        rw [T.LS u hu hu7, T.LS v hv hv7, e]
  rw [prec_iff, same]
  constructor
  · rintro (g | ⟨_, g⟩)
    · exact absurd g (nl_irr _)
    · exact g
  · exact fun g => .inr ⟨rfl, g⟩
/-- the order of the row by the blocks -/
theorem Tr.prec_kk {u v : Nat} (hu7 : u < 7) (hv7 : v < 7) : precB L u v = true ↔ kkN P K L u < kkN P K L v ∨ (kkN P K L u = kkN P K L v ∧ u < v) := by
  constructor
  · intro h
    rcases Nat.lt_trichotomy (kkN P K L u) (kkN P K L v) with g | g | g
    · exact .inl g
    · exact .inr ⟨g, (T.kk_eq hu7 hv7 g).mp h⟩
    · have := prec_asymm (T.kk_lt hv7 hu7 g)
      rw [h] at this; cases this
  · rintro (g | ⟨g, h⟩)
    · exact T.kk_lt hu7 hv7 g
    · exact (T.kk_eq hu7 hv7 g).mpr h
theorem Tr.cut_iff {u X : Nat} (hu7 : u < 7) : posN L u < cutN P K L X ↔ kkN P K L u < X := by
  constructor
  · intro h
    rcases Nat.lt_or_ge (kkN P K L u) X with g | g
    · exact g
    · have : cutN P K L X ≤ posN L u := count_le fun v hv hx => by
        have h7 := List.mem_range.mp hv
        have : kkN P K L v < X := by simpa using hx
        exact (T.prec_kk h7 hu7).mpr (.inl (by (first | exact om350 g this | omega)))
      (first | exact om351 h this | omega)
  · intro h
    refine count_lt (fun v hv hx => ?_) ⟨u, List.mem_range.mpr hu7, by simpa using h, prec_irr L u⟩
    have h7 := List.mem_range.mp hv
    rcases (T.prec_kk h7 hu7).mp hx with g | ⟨g, _⟩
    · simp; (first | exact om352 h g | omega)
    · simp; (first | exact om353 h g | omega)
theorem Tr.pos_is {u : Nat} (hu7 : u < 7) : posN L u = cutN P K L (kkN P K L u) + (List.range 7).countP fun v => decide (kkN P K L v = kkN P K L u) && decide (v < u) := by
  refine count_or (fun v hv => ?_) fun v hv h => ?_
  · have h7 := List.mem_range.mp hv
    rw [Bool.eq_iff_iff, T.prec_kk h7 hu7]
    simp
  · have : kkN P K L v < kkN P K L u := by simpa using h
    have e : ¬ kkN P K L v = kkN P K L u := by (first | exact om354 this | omega)
    simp [e]
end
theorem cut_le7 (P K : Nat → Nat) (L : Nat → List Nat) (X : Nat) : cutN P K L X ≤ 7 := by
  have := List.countP_le_length (p := fun u => decide (kkN P K L u < X)) (l := List.range 7)
  simpa [cutN] using this
theorem cut_mono (P K : Nat → Nat) (L : Nat → List Nat) {X Y : Nat} (h : X ≤ Y) : cutN P K L X ≤ cutN P K L Y :=
  count_le fun u _ hu => by
    have : kkN P K L u < X := by simpa using hu
    simp; (first | exact om355 h this | omega)
end Mine
end

section
open PySem PySem.W PyProof.Rows PySem.Calls PySem.Spec
namespace Mine
theorem dc_split {α : Type} (D : α → Bool) : ∀ l : List α, l.Pairwise (fun a b => D b = true → D a = true) → l.take (l.filter D).length = l.filter D ∧ l.drop (l.filter D).length = l.filter fun a => !D a
  | [], _ => ⟨rfl, rfl⟩
  | a :: r, h => by
    rw [List.pairwise_cons] at h
    have ih := dc_split D r h.2
    cases e : D a with
    | true => simp [List.filter_cons, e, ih.1, ih.2]
    | false =>
      have hn : ∀ b ∈ r, D b = false := fun b hb => by
        cases e2 : D b with
        | false => rfl
        | true => rw [h.1 b hb e2] at e; cases e
      have e1 : r.filter D = [] := List.filter_eq_nil_iff.mpr fun b hb => by simp [hn b hb]
      have e2 : r.filter (fun a => !D a) = r := List.filter_eq_self.mpr fun b hb => by simp [hn b hb]
      simp [List.filter_cons, e, e1, e2]
theorem dc_iff {α : Type} {D : α → Bool} {l : List α} (h : l.Pairwise (fun a b => D b = true → D a = true)) {j : Nat} (hj : j < l.length) : D l[j] = true ↔ j < (l.filter D).length := by
  have ⟨h1, h2⟩ := dc_split D l h
  constructor
  · intro hd
    rcases Nat.lt_or_ge j (l.filter D).length with g | g
    · exact g
    · have hm : l[j] ∈ l.drop (l.filter D).length := by
        rw [List.mem_drop_iff_getElem]
        exact ⟨j - (l.filter D).length, by (first | exact om356 hj g | omega), by congr 1; (first | exact om357 g | omega)⟩
      rw [h2] at hm
      have := (List.mem_filter.mp hm).2
      simp [hd] at this
  · intro hlt
    have hm : l[j] ∈ l.take (l.filter D).length := by
      rw [List.mem_take_iff_getElem]
      exact ⟨j, by (first | exact om358 hj hlt | omega), rfl⟩
    rw [h1] at hm
    exact (List.mem_filter.mp hm).2
theorem ins_sorted {α : Type} {R : α → α → Prop} {l : List α} {D : α → Bool} {x : α} (hs : l.Pairwise R) (hD : ∀ a ∈ l, D a = true → R a x) (hN : ∀ a ∈ l, D a = false → R x a) (hdc : l.Pairwise (fun a b => D b = true → D a = true)) :
    (l.take (l.filter D).length ++ x :: l.drop (l.filter D).length).Pairwise R := by
  have ⟨h1, h2⟩ := dc_split D l hdc
  have h3 := hs
  rw [← List.take_append_drop (l.filter D).length l, List.pairwise_append] at h3
  rw [List.pairwise_append, List.pairwise_cons]
  refine ⟨h3.1, ⟨?_, h3.2.1⟩, ?_⟩
  · intro a ha
    rw [h2] at ha
    have := List.mem_filter.mp ha
    exact hN a this.1 (by simpa using this.2)
  · intro a ha b hb
    rcases List.mem_cons.mp hb with rfl | hb
    · rw [h1] at ha
      have := List.mem_filter.mp ha
      exact hD a this.1 this.2
    · exact h3.2.2 a ha b hb
theorem ins_perm {α : Type} (l : List α) (x : α) (c : Nat) : (l.take c ++ x :: l.drop c).Perm (x :: l) := by
  refine List.Perm.trans List.perm_middle ?_
  rw [List.take_append_drop]
/-- the row, sorted -/
theorem row_sorted {f : Int → PySem.Str} {L : Nat → List Nat} (hf : ∀ k : Nat, k < 7 → cpl (f k) = L k) : ∀ i, i ≤ 6 → (rowL f i).Perm ((List.range i).map fun k : Nat => ((k + 1 : Nat) : Int)) ∧ (rowL f i).Pairwise fun a b => precB L a.toNat b.toNat = true
  | 0, _ => ⟨by simp [rowL], by simp [rowL]⟩
  | i + 1, hi => by
    have ⟨ih1, ih2⟩ := row_sorted hf i (by (first | exact om359 hi | omega))
    have hn : nodes7.getD i 0 = ((i + 1 : Nat) : Int) := by
      have : ∀ j : Fin 6, nodes7.getD j.1 0 = ((j.1 + 1 : Nat) : Int) := by decide
      exact this ⟨i, by (first | exact om360 hi | omega)⟩
    have hmem : ∀ a ∈ rowL f i, ∃ k : Nat, a = (k : Int) ∧ 1 ≤ k ∧ k ≤ i := fun a ha => by
      have := ih1.mem_iff.mp ha
      obtain ⟨k, hk, rfl⟩ := List.mem_map.mp this
      have := List.mem_range.mp hk
      exact ⟨k + 1, rfl, by (first | exact om361 | omega), by (first | exact om362 hn this | omega)⟩
    have hcut : cutF f (rowL f i) ((i + 1 : Nat) : Int) = ((rowL f i).filter fun r => !decide (L (i + 1) < L r.toNat)).length := by
      unfold cutF
      congr 1
      refine List.filter_congr fun a ha => ?_
      obtain ⟨k, rfl, k1, k2⟩ := hmem a ha
      have e1 : (f ((i + 1 : Nat) : Int)).cps.toList = L (i + 1) := hf (i + 1) (by (first | exact om363 hi hn | omega))
      have e2 : (f (k : Int)).cps.toList = L k := hf k (by (first | exact om364 hi hn k2 | omega))
      rw [e1, e2]
      rfl
    unfold rowL
    rw [hn, hcut]
    refine ⟨?_, ins_sorted ih2 ?_ ?_ ?_⟩
    · refine (ins_perm _ _ _).trans ?_
      rw [List.range_succ, List.map_append]
      refine (ih1.cons _).trans ?_
      exact (List.perm_append_singleton _ _).symm
    · intro a ha hd
      obtain ⟨k, rfl, k1, k2⟩ := hmem a ha
      have hnl : ¬ L (i + 1) < L k := by simpa using hd
      rw [prec_iff]
      simp only [Int.toNat_natCast]
      rcases nl_tri (L k) (L (i + 1)) with g | g | g
      · exact .inl g
      · exact .inr ⟨g, by (first | exact om365 hn k2 | omega)⟩
      · exact absurd g hnl
    · intro a ha hd
      obtain ⟨k, rfl, k1, k2⟩ := hmem a ha
      rw [prec_iff]
      simp only [Int.toNat_natCast]
      exact .inl (by simpa using hd)
    · refine ih2.imp fun {a b} hab hd => ?_
      have hnl : ¬ L (i + 1) < L b.toNat := by simpa using hd
      rw [prec_iff] at hab
      have : ¬ L (i + 1) < L a.toNat := by
        rcases hab with g | ⟨g, _⟩
        · exact fun h => hnl (nl_trans h g)
        · rw [g]; exact hnl
      simpa using this
theorem row_cut {f : Int → PySem.Str} {L : Nat → List Nat} (hf : ∀ k : Nat, k < 7 → cpl (f k) = L k) (h0 : ∀ k, 1 ≤ k → k < 7 → L 0 < L k) : ∀ i, i < 7 → ∀ j : Nat, j < (rowL f i).length →
    decide ((f (nodes7.getD i 0)).cps.toList < (f ((rowL f i).getD j 0)).cps.toList) = decide (cutF f (rowL f i) (nodes7.getD i 0) ≤ j) := by
  intro i hi j hj
  have ⟨ih1, ih2⟩ := row_sorted hf i (by (first | exact om366 hi | omega))
  have hmem : ∀ a ∈ rowL f i, ∃ k : Nat, a = (k : Int) ∧ 1 ≤ k ∧ k ≤ i := fun a ha => by
    have := ih1.mem_iff.mp ha
    obtain ⟨k, hk, rfl⟩ := List.mem_map.mp this
    have := List.mem_range.mp hk
    exact ⟨k + 1, rfl, by (first | exact om361 | omega), by (first | exact om274 this | omega)⟩
  obtain ⟨nd, hnd, hnd7⟩ : ∃ nd : Nat, nodes7.getD i 0 = (nd : Int) ∧ nd < 7 := by
    have h := nodes7_range i hi
    exact ⟨(nodes7.getD i 0).toNat, by (first | exact om127 h | omega), by (first | exact om367 h | omega)⟩
  have hdc : (rowL f i).Pairwise fun a b => (!decide ((f (nodes7.getD i 0)).cps.toList < (f b).cps.toList)) = true → (!decide ((f (nodes7.getD i 0)).cps.toList < (f a).cps.toList)) = true := by
    refine List.Pairwise.imp_of_mem (R := fun a b => precB L a.toNat b.toNat = true) (fun {a b} ha hb hab hd => ?_) ih2
    obtain ⟨k, rfl, k1, k2⟩ := hmem a ha
    obtain ⟨k', rfl, k1', k2'⟩ := hmem b hb
    rw [hnd] at hd ⊢
    have e1 : (f (nd : Int)).cps.toList = L nd := hf nd hnd7
    have e2 : (f (k : Int)).cps.toList = L k := hf k (by (first | exact om368 hi k2 | omega))
    have e3 : (f (k' : Int)).cps.toList = L k' := hf k' (by (first | exact om368 hi k2' | omega))
    rw [e1, e3] at hd
    rw [e1, e2]
    have hnl : ¬ L nd < L k' := by simpa using hd
    rw [prec_iff] at hab
    simp only [Int.toNat_natCast] at hab
    have : ¬ L nd < L k := by
      rcases hab with g | ⟨g, _⟩
      · exact fun h => hnl (nl_trans h g)
      · rw [g]; exact hnl
    simpa using this
  have := dc_iff hdc hj
  have hgd : (rowL f i).getD j 0 = (rowL f i)[j] := by rw [List.getD_eq_getElem?_getD, List.getElem?_eq_getElem hj]; rfl
  rw [hgd]
  show decide _ = decide ((List.filter _ _).length ≤ j)
  rw [Bool.eq_iff_iff, decide_eq_true_eq, decide_eq_true_eq]
  constructor
  · intro h
    rcases Nat.lt_or_ge j ((rowL f i).filter fun r => !decide ((f (nodes7.getD i 0)).cps.toList < (f r).cps.toList)).length with g | g
    · have := this.mpr g
      rw [decide_eq_true h] at this
      exact absurd this (by decide)
    · exact g
  · intro h
    refine Classical.byContradiction fun hn => ?_
    have := this.mp (by rw [decide_eq_false hn]; rfl)
    (first | exact om369 hj h this | omega)
/-- the whole row -/
theorem row_all {f : Int → PySem.Str} {L : Nat → List Nat} (hf : ∀ k : Nat, k < 7 → cpl (f k) = L k) (h0 : ∀ k, 1 ≤ k → k < 7 → L 0 < L k) :
    (rowL f 7).Perm ((List.range 7).map fun k : Nat => (k : Int)) ∧ (rowL f 7).Pairwise fun a b => precB L a.toNat b.toNat = true := by
  have ⟨ih1, ih2⟩ := row_sorted hf 6 (by (first | exact om370 | omega))
  have hmem : ∀ a ∈ rowL f 6, ∃ k : Nat, a = (k : Int) ∧ 1 ≤ k ∧ k < 7 := fun a ha => by
    have := ih1.mem_iff.mp ha
    obtain ⟨k, hk, rfl⟩ := List.mem_map.mp this
    have := List.mem_range.mp hk
    exact ⟨k + 1, rfl, by (first | exact om371 this | omega), by (first | exact om372 this | omega)⟩
  have hcut : cutF f (rowL f 6) 0 = 0 := by
    unfold cutF
    rw [List.length_eq_zero_iff, List.filter_eq_nil_iff]
    intro a ha
    obtain ⟨k, rfl, k1, k2⟩ := hmem a ha
    have e1 : (f (0 : Int)).cps.toList = L 0 := hf 0 (by (first | exact om373 | omega))
    have e2 : (f (k : Int)).cps.toList = L k := hf k (by (first | exact om374 k2 | omega))
    rw [e1, e2]
    simp [h0 k k1 k2]
  have e : rowL f 7 = 0 :: rowL f 6 := by
    show (rowL f 6).take (cutF f (rowL f 6) (nodes7.getD 6 0)) ++ nodes7.getD 6 0 :: (rowL f 6).drop (cutF f (rowL f 6) (nodes7.getD 6 0)) = _
    rw [show nodes7.getD 6 0 = 0 by decide, hcut]
    rfl
  rw [e]
  refine ⟨?_, List.pairwise_cons.mpr ⟨fun a ha => ?_, ih2⟩⟩
  · exact ih1.cons 0
  · obtain ⟨k, rfl, k1, k2⟩ := hmem a ha
    rw [prec_iff]
    exact .inl (h0 k k1 k2)
theorem row_pos {f : Int → PySem.Str} {L : Nat → List Nat} (hf : ∀ k : Nat, k < 7 → cpl (f k) = L k) (h0 : ∀ k, 1 ≤ k → k < 7 → L 0 < L k) {j : Nat} (hj : j < 7) :
    ∃ k : Nat, (rowL f 7)[j]? = some (k : Int) ∧ k < 7 ∧ posN L k = j := by
  have ⟨h1, h2⟩ := row_all hf h0
  have hl : (rowL f 7).length = 7 := rowL_length f 7
  have hj' : j < (rowL f 7).length := by (first | exact om375 hj hl | omega)
  have hm : (rowL f 7)[j] ∈ (List.range 7).map fun k : Nat => (k : Int) := h1.mem_iff.mp (List.getElem_mem hj')
  obtain ⟨k, hk, hkj⟩ := List.mem_map.mp hm
  refine ⟨k, by rw [List.getElem?_eq_getElem hj', ← hkj], List.mem_range.mp hk, ?_⟩
  have hp := h1.map Int.toNat
  rw [List.map_map] at hp
  have hid : (List.range 7).map (Int.toNat ∘ fun k : Nat => (k : Int)) = List.range 7 := by
    rw [show (Int.toNat ∘ fun k : Nat => (k : Int)) = id from funext fun k => by simp]
    exact List.map_id _
  rw [hid] at hp
  have hc : posN L k = ((rowL f 7).filter fun a => precB L a.toNat k).length := by
    unfold posN
    rw [← hp.countP_eq, List.countP_map, List.countP_eq_length_filter]
    rfl
  rw [hc]
  have hdc : (rowL f 7).Pairwise fun a b => precB L b.toNat k = true → precB L a.toNat k = true := h2.imp fun {a b} hab hd => prec_trans hab hd
  have hat : ((rowL f 7)[j]).toNat = k := by rw [← hkj]; simp
  have a1 := dc_iff (D := fun a => precB L a.toNat k) hdc hj'
  rw [hat, prec_irr] at a1
  have a2 : ¬ j < ((rowL f 7).filter fun a => precB L a.toNat k).length := fun h => by have := a1.mpr h; cases this
  rcases Nat.lt_or_ge ((rowL f 7).filter fun a => precB L a.toNat k).length j with g | g
  · have hc7 : ((rowL f 7).filter fun a => precB L a.toNat k).length < (rowL f 7).length := by (first | exact om376 hl hj' g | omega)
    have a3 := dc_iff (D := fun a => precB L a.toNat k) hdc hc7
    have a4 := List.pairwise_iff_getElem.mp h2 _ j hc7 hj' g
    rw [hat] at a4
    exact absurd (a3.mp a4) (Nat.lt_irrefl _)
  · (first | exact om377 hj' a2 g | omega)
end Mine
end

section
namespace Mine
/-! the blocks -/
noncomputable def psN (K r : Nat → Nat) (inn : Nat → Bool) (c : Nat) : List Nat := (List.range 7).filter fun p => decide (K (r p) = c) && inn (r p)
noncomputable def bsN (P K r : Nat → Nat) (L : Nat → List Nat) (inn : Nat → Bool) (c : Nat) : List Nat := (psN K r inn c).map (fun p => cutN P K L (8 * c + p + 1)) ++ [cutN P K L (8 * (c + 1) + 1)]
/-- the row's nodes by their places; what is inner, what is last -/
structure Rw (P K dp : Nat → Nat) (κ L : Nat → List Nat) (r : Nat → Nat) (inn last : Nat → Bool) : Prop where
  T : Tr P K dp κ L
  r7 : ∀ j, j < 7 → r j < 7
  rp : ∀ j, j < 7 → posN L (r j) = j
  inn_iff : ∀ u, u < 7 → (inn u = true ↔ ∃ v, 1 ≤ v ∧ v < 7 ∧ P v = u)
  last_iff : ∀ v, 1 ≤ v → v < 7 → (last v = true ↔ ∀ w, v < w → w < 7 → P w ≠ P v)
theorem psN_sorted (K r : Nat → Nat) (inn : Nat → Bool) (c : Nat) : (psN K r inn c).Pairwise (· < ·) := List.Pairwise.filter _ List.pairwise_lt_range
theorem psN_mem {K r : Nat → Nat} {inn : Nat → Bool} {c p : Nat} : p ∈ psN K r inn c ↔ p < 7 ∧ K (r p) = c ∧ inn (r p) = true := by
  simp [psN]
theorem psN_len (K r : Nat → Nat) (inn : Nat → Bool) (c : Nat) : (psN K r inn c).length ≤ 7 := by
  have := List.length_filter_le (fun p => decide (K (r p) = c) && inn (r p)) (List.range 7)
  rwa [List.length_range] at this
theorem bsN_len (P K r : Nat → Nat) (L : Nat → List Nat) (inn : Nat → Bool) (c : Nat) : (bsN P K r L inn c).length = (psN K r inn c).length + 1 := by simp [bsN]
section
variable {P K dp : Nat → Nat} {κ L : Nat → List Nat} {r : Nat → Nat} {inn last : Nat → Bool} (R : Rw P K dp κ L r inn last)
include R
theorem Rw.r_pos {u : Nat} (hu : u < 7) : r (posN L u) = u := pos_inj (L := L) (R.r7 _ (pos_lt7 hu)) hu (R.rp _ (pos_lt7 hu))
theorem Rw.gap {c X Y : Nat} (hXY : X ≤ Y) (hY : Y ≤ 8) (h : ∀ p, X ≤ p → p < Y → p ∉ psN K r inn c) : cutN P K L (8 * c + X + 1) = cutN P K L (8 * c + Y + 1) := by
  refine List.countP_congr fun u hu => ?_
  have hu7 := List.mem_range.mp hu
  rw [decide_eq_true_eq, decide_eq_true_eq]
  constructor
  · intro g; (first | exact om378 hXY g | omega)
  · intro g
    refine Classical.byContradiction fun hn => ?_
    have hu0 : 1 ≤ u := by
      rcases Nat.eq_zero_or_pos u with rfl | h0
      · simp [kkN] at hn
      · exact h0
    unfold kkN at g hn
    rw [if_neg (by (first | exact om379 hu7 hu0 | omega))] at g hn
    have hp := pos_lt7 (L := L) (R.T.p7 hu0 hu7)
    have e1 : K (P u) = c := by (first | exact om380 hY g hn hp | omega)
    refine h (posN L (P u)) (by (first | exact om381 hn e1 | omega)) (by (first | exact om346 g e1 | omega)) (psN_mem.mpr ⟨hp, ?_, ?_⟩)
    · rw [R.r_pos (R.T.p7 hu0 hu7)]; exact e1
    · rw [R.r_pos (R.T.p7 hu0 hu7)]
      exact (R.inn_iff _ (R.T.p7 hu0 hu7)).mpr ⟨u, hu0, hu7, rfl⟩
/-- where a begin lies, by the count of the places ahead of it -/
theorem Rw.bs_at {c X : Nat} (hX : X ≤ 8) : (bsN P K r L inn c)[((psN K r inn c).filter fun p => decide (p < X)).length]? = some (cutN P K L (8 * c + X + 1)) := by
  have hs := psN_sorted K r inn c
  have hdc : (psN K r inn c).Pairwise fun a b => (fun p => decide (p < X)) b = true → (fun p => decide (p < X)) a = true := hs.imp fun {a b} hab hb => by
    simp only [decide_eq_true_eq] at hb ⊢
    (first | exact om332 hab hb | omega)
  have hle : ((psN K r inn c).filter fun p => decide (p < X)).length ≤ (psN K r inn c).length := List.length_filter_le _ _
  have hbefore : ∀ i (hi : i < (psN K r inn c).length), (psN K r inn c)[i] < X ↔ i < ((psN K r inn c).filter fun p => decide (p < X)).length := fun i hi => by
    have := dc_iff (D := fun p => decide (p < X)) hdc hi
    rwa [decide_eq_true_eq] at this
  generalize ((psN K r inn c).filter fun p => decide (p < X)).length = t at hle hbefore ⊢
  unfold bsN
  rcases Nat.lt_or_ge t (psN K r inn c).length with ht | ht
  · rw [List.getElem?_append_left (by simpa using ht), List.getElem?_map, List.getElem?_eq_getElem ht]
    show some _ = some _
    congr 1
    have hX2 : X ≤ (psN K r inn c)[t] := by
      have := hbefore t ht
      (first | exact om382 ht this | omega)
    have h7 := (psN_mem.mp (List.getElem_mem ht)).1
    refine (R.gap hX2 (by (first | exact om383 ht h7 | omega)) fun p p1 p2 hm => ?_).symm
    obtain ⟨i, hi, rfl⟩ := List.getElem_of_mem hm
    have g1 := hbefore i hi
    have g2 : t ≤ i := by (first | exact om384 ht hi p1 g1 | omega)
    rcases Nat.lt_or_eq_of_le g2 with g2 | rfl
    · have := List.pairwise_iff_getElem.mp hs _ _ ht hi g2
      (first | exact om385 ht hi p2 this | omega)
    · omega
  · have e : t = (psN K r inn c).length := by (first | exact om275 hle ht | omega)
    subst e
    rw [List.getElem?_append_right (by simp)]
    simp only [List.length_map, Nat.sub_self, List.getElem?_cons_zero]
    congr 1
    refine (R.gap hX (Nat.le_refl 8) fun p p1 p2 hm => ?_).symm
    obtain ⟨i, hi, rfl⟩ := List.getElem_of_mem hm
    have g1 := hbefore i hi
    (first | exact om386 hi p1 g1 | omega)
theorem Rw.cut1 : cutN P K L 1 = 1 := by
  unfold cutN
  have : (List.range 7).countP (fun u => decide (kkN P K L u < 1)) = (List.range 7).countP (fun u => decide (u = 0)) := by
    refine List.countP_congr fun u _ => ?_
    rw [decide_eq_true_eq, decide_eq_true_eq]
    constructor
    · intro h
      rcases Nat.eq_zero_or_pos u with h0 | h0
      · exact h0
      · have := kk_pos (P := P) (K := K) (L := L) h0; (first | exact om387 h this | omega)
    · rintro rfl
      simp [kkN]
  rw [this]
  decide
theorem Rw.first (c : Nat) : (bsN P K r L inn c)[0]? = some (cutN P K L (8 * c + 1)) := by
  have := R.bs_at (c := c) (X := 0) (by (first | exact om388 | omega))
  have e : ((psN K r inn c).filter fun p => decide (p < 0)) = [] := List.filter_eq_nil_iff.mpr fun a _ => by simp
  rw [e] at this
  exact this
theorem Rw.bs_end (c : Nat) : (bsN P K r L inn c)[(psN K r inn c).length]? = some (cutN P K L (8 * (c + 1) + 1)) := by
  unfold bsN
  rw [List.getElem?_append_right (by simp)]
  simp
theorem Rw.count_at {c j : Nat} (hj : j < (psN K r inn c).length) : ((psN K r inn c).filter fun p => decide (p < (psN K r inn c)[j])).length = j ∧ ((psN K r inn c).filter fun p => decide (p < (psN K r inn c)[j] + 1)).length = j + 1 := by
  have hs := psN_sorted K r inn c
  have key : ∀ X, (∀ i (hi : i < (psN K r inn c).length), (psN K r inn c)[i] < X ↔ i < ((psN K r inn c).filter fun p => decide (p < X)).length) := fun X i hi => by
    have hdc : (psN K r inn c).Pairwise fun a b => (fun p => decide (p < X)) b = true → (fun p => decide (p < X)) a = true := hs.imp fun {a b} hab hb => by
      simp only [decide_eq_true_eq] at hb ⊢
      (first | exact om332 hab hb | omega)
    have := dc_iff (D := fun p => decide (p < X)) hdc hi
    rwa [decide_eq_true_eq] at this
  have mono := fun (i : Nat) (hi : i < (psN K r inn c).length) (hij : i < j) => List.pairwise_iff_getElem.mp hs i j hi hj hij
  have mono2 := fun (i : Nat) (hi : i < (psN K r inn c).length) (hij : j < i) => List.pairwise_iff_getElem.mp hs j i hj hi hij
  have k1 := key (psN K r inn c)[j]
  have k2 := key ((psN K r inn c)[j] + 1)
  have l1 : ((psN K r inn c).filter fun p => decide (p < (psN K r inn c)[j])).length ≤ (psN K r inn c).length := List.length_filter_le _ _
  have l2 : ((psN K r inn c).filter fun p => decide (p < (psN K r inn c)[j] + 1)).length ≤ (psN K r inn c).length := List.length_filter_le _ _
  generalize ((psN K r inn c).filter fun p => decide (p < (psN K r inn c)[j])).length = t1 at k1 l1 ⊢
  generalize ((psN K r inn c).filter fun p => decide (p < (psN K r inn c)[j] + 1)).length = t2 at k2 l2 ⊢
  constructor
  · have a1 := k1 j hj
    rcases Nat.lt_trichotomy t1 j with h | h | h
    · have := (k1 t1 (by (first | exact om389 hj l1 h | omega))).mp (mono t1 (by (first | exact om389 hj l1 h | omega)) h); (first | exact om390 this | omega)
    · exact h
    · have := a1.mpr h; (first | exact om391 hj this | omega)
  · have a1 := (k2 j hj).mp (by (first | exact om392 hj | omega))
    rcases Nat.lt_or_ge t2 (j + 2) with h | h
    · (first | exact om393 a1 h | omega)
    · have hj1 : j + 1 < (psN K r inn c).length := by (first | exact om394 hj l2 h | omega)
      have := (k2 (j + 1) hj1).mpr (by (first | exact om395 h | omega))
      have := mono2 (j + 1) hj1 (by (first | exact om396 hj hj1 | omega))
      (first | exact om397 hj hj1 (by assumption) this | omega)
/-- a block: the nodes below one -/
theorem Rw.in_block {c p o : Nat} (hp : p < 7) (hK : K (r p) = c) (ho7 : o < 7) (h1 : cutN P K L (8 * c + p + 1) ≤ o) (h2 : o < cutN P K L (8 * c + p + 2)) : 1 ≤ r o ∧ P (r o) = r p := by
  have a1 := R.T.cut_iff (X := 8 * c + p + 1) (R.r7 o ho7)
  have a2 := R.T.cut_iff (X := 8 * c + p + 2) (R.r7 o ho7)
  rw [R.rp o ho7] at a1 a2
  have e : kkN P K L (r o) = 8 * c + p + 1 := by (first | exact om398 h1 h2 a1 a2 | omega)
  have h0 : 1 ≤ r o := by
    rcases Nat.eq_zero_or_pos (r o) with h0 | h0
    · rw [h0] at e; simp [kkN] at e
    · exact h0
  refine ⟨h0, ?_⟩
  unfold kkN at e
  rw [if_neg (by (first | exact om337 h0 | omega))] at e
  have hp7 := R.T.p7 h0 (R.r7 o ho7)
  have := pos_lt7 (L := L) hp7
  have e2 : posN L (P (r o)) = p := by (first | exact om399 hp e this | omega)
  rw [← R.r_pos hp7, e2]
theorem Rw.of_block {c p v : Nat} (hp : p < 7) (hK : K (r p) = c) (hv : 1 ≤ v) (hv7 : v < 7) (h : P v = r p) : cutN P K L (8 * c + p + 1) ≤ posN L v ∧ posN L v < cutN P K L (8 * c + p + 2) := by
  have e : kkN P K L v = 8 * c + p + 1 := by
    unfold kkN
    rw [if_neg (by (first | exact om348 hv hv7 | omega)), h, hK, R.rp p hp]
  have a1 := R.T.cut_iff (X := 8 * c + p + 1) hv7
  have a2 := R.T.cut_iff (X := 8 * c + p + 2) hv7
  (first | exact om400 e a1 a2 | omega)
theorem Rw.block_sorted {c p o o' : Nat} (hp : p < 7) (hK : K (r p) = c) (ho7 : o' < 7) (h1 : cutN P K L (8 * c + p + 1) ≤ o) (h2 : o' < cutN P K L (8 * c + p + 2)) (hlt : o < o') : r o < r o' := by
  have ho : o < 7 := by (first | exact om401 ho7 hlt | omega)
  have b1 := R.in_block hp hK ho h1 (by (first | exact om352 h2 hlt | omega))
  have b2 := R.in_block hp hK ho7 (by (first | exact om231 h1 hlt | omega)) h2
  have hpr : precB L (r o) (r o') = true := by
    rw [← pos_iff (R.r7 o ho) (R.r7 o' ho7), R.rp o ho, R.rp o' ho7]
    exact hlt
  have hkk : kkN P K L (r o) = kkN P K L (r o') := by
    unfold kkN
    rw [if_neg (by (first | exact om402 b1 | omega)), if_neg (by (first | exact om402 b2 | omega)), b1.2, b2.2]
  exact (R.T.kk_eq (R.r7 o ho) (R.r7 o' ho7) hkk).mp hpr
theorem Rw.block {c p : Nat} (hp : p ∈ psN K r inn c) : cutN P K L (8 * c + p + 1) < cutN P K L (8 * c + p + 2) ∧ cutN P K L (8 * c + p + 2) ≤ 7 ∧
    (∀ k, cutN P K L (8 * c + p + 1) ≤ k → k + 1 < cutN P K L (8 * c + p + 2) → last (r k) = false) ∧ last (r (cutN P K L (8 * c + p + 2) - 1)) = true := by
  obtain ⟨hp7, hK, hin⟩ := psN_mem.mp hp
  have c7 := cut_le7 P K L (8 * c + p + 2)
  obtain ⟨v, v1, v7, hv⟩ := (R.inn_iff _ (R.r7 p hp7)).mp hin
  have hb := R.of_block hp7 hK v1 v7 hv
  refine ⟨by (first | exact om403 hb | omega), c7, fun k k1 k2 => ?_, ?_⟩
  · have b1 := R.in_block hp7 hK (by (first | exact om404 c7 k2 | omega)) k1 (by (first | exact om225 k2 | omega))
    have b2 := R.in_block hp7 hK (o := k + 1) (by (first | exact om405 c7 k2 | omega)) (by (first | exact om56 k1 | omega)) k2
    have hlt := R.block_sorted hp7 hK (o := k) (o' := k + 1) (by (first | exact om405 c7 k2 | omega)) k1 k2 (by (first | exact om406 | omega))
    cases e : last (r k) with
    | false => rfl
    | true =>
      have := (R.last_iff _ b1.1 (R.r7 k (by (first | exact om404 c7 k2 | omega)))).mp e (r (k + 1)) hlt (R.r7 _ (by (first | exact om405 c7 k2 | omega)))
      exact absurd (b2.2.trans b1.2.symm) this
  · have hx : cutN P K L (8 * c + p + 2) - 1 < 7 := by (first | exact om407 c7 hb | omega)
    have b1 := R.in_block hp7 hK hx (by (first | exact om408 c7 hb | omega)) (by (first | exact om409 c7 hb | omega))
    refine (R.last_iff _ b1.1 (R.r7 _ hx)).mpr fun w hw w7 he => ?_
    have w1 : 1 ≤ w := by (first | exact om410 b1 hw w7 | omega)
    have b2 := R.of_block hp7 hK w1 w7 (he.trans b1.2)
    have b3 : kkN P K L (r (cutN P K L (8 * c + p + 2) - 1)) = kkN P K L w := by
      unfold kkN
      rw [if_neg (by (first | exact om402 b1 | omega)), if_neg (by (first | exact om379 w7 w1 | omega)), he]
    have b4 := (R.T.kk_eq (R.r7 _ hx) w7 b3).mpr hw
    rw [← pos_iff (R.r7 _ hx) w7, R.rp _ hx] at b4
    (first | exact om411 c7 hb b2 b4 | omega)
end
end Mine
end

section
namespace Mine
/-! the way asked: from where to where -/
theorem nl_app_iff {p x y : List Nat} : p ++ x < p ++ y ↔ x < y := by
  constructor
  · intro h
    rcases nl_tri x y with g | g | g
    · exact g
    · rw [g] at h; exact absurd h (nl_irr _)
    · exact absurd (List.append_left_lt g) (nl_asymm h)
  · exact fun h => List.append_left_lt h
theorem nil_lt {x : List Nat} (h : x ≠ []) : [] < x := by
  cases x with
  | nil => exact absurd rfl h
  | cons a r => exact List.nil_lt_cons ..
theorem not_lt_nil (x : List Nat) : ¬ x < [] := by
  intro h
  cases x with
  | nil => exact nl_irr _ h
  | cons a r => exact nl_asymm h (List.nil_lt_cons ..)
section
variable {P K dp : Nat → Nat} {κ L : Nat → List Nat} {r : Nat → Nat} {inn last : Nat → Bool} (R : Rw P K dp κ L r inn last)
include R
theorem Rw.cmp1 {d u : Nat} (hd : d < 4) (hu : u < 7) : ((L u).take (κ d).length < κ d ↔ kkN P K L u < 8 * d + 1) ∧ (κ d < (L u).take (κ d).length ↔ ¬ kkN P K L u < 8 * (d + 1) + 1) := by
  rcases Nat.eq_zero_or_pos u with rfl | h0
  · rw [R.T.L0]
    have e : kkN P K L 0 = 0 := by simp [kkN]
    rw [e, List.take_nil]
    refine ⟨⟨fun _ => by (first | exact om412 hd | omega), fun _ => nil_lt (R.T.ne d hd)⟩, ⟨fun h => absurd h (not_lt_nil _), fun h => by (first | exact om413 hd h | omega)⟩⟩
  · have hp := R.T.p7 h0 hu
    have hk := R.T.hK _ hp
    have h7 := pos_lt7 (L := L) hp
    rw [R.T.LS u h0 hu]
    have e : kkN P K L u = 8 * K (P u) + posN L (P u) + 1 := by unfold kkN; rw [if_neg (by (first | exact om345 hu h0 | omega))]
    rw [e]
    rcases Nat.lt_trichotomy (K (P u)) d with g | g | g
    · have a := split_take (R.T.split _ _ g hd) (L (P u)) [] (n := (κ d).length) (Nat.le_refl _)
      rw [List.append_nil] at a
      exact ⟨⟨fun _ => by (first | exact om414 h7 e g | omega), fun _ => a⟩, ⟨fun h => absurd h (nl_asymm a), fun h => by (first | exact om415 h7 e g h | omega)⟩⟩
    · rw [g, List.take_left]
      exact ⟨⟨fun h => absurd h (nl_irr _), fun h => by (first | exact om416 h7 e h | omega)⟩, ⟨fun h => absurd h (nl_irr _), fun h => by (first | exact om417 h7 e h | omega)⟩⟩
    · have a := take_split (R.T.split _ _ g hk) [] (L (P u)) (n := (κ d).length) (Nat.le_refl _)
      rw [List.append_nil] at a
      exact ⟨⟨fun h => absurd h (nl_asymm a), fun h => by (first | exact om418 h7 e g h | omega)⟩, ⟨fun _ => by (first | exact om419 h7 e g | omega), fun _ => a⟩⟩
theorem Rw.cmp2 {c d u : Nat} (hc : c < 4) (hd : d < 4) (hu : u < 7) :
    ((L u).take (κ c ++ κ d).length < κ c ++ κ d ↔ kkN P K L u < 8 * c + cutN P K L (8 * d + 1) + 1) ∧ (κ c ++ κ d < (L u).take (κ c ++ κ d).length ↔ ¬ kkN P K L u < 8 * c + cutN P K L (8 * (d + 1) + 1) + 1) := by
  have B7 := cut_le7 P K L (8 * d + 1)
  have E7 := cut_le7 P K L (8 * (d + 1) + 1)
  rcases Nat.eq_zero_or_pos u with rfl | h0
  · rw [R.T.L0]
    have e : kkN P K L 0 = 0 := by simp [kkN]
    rw [e, List.take_nil]
    have hne : κ c ++ κ d ≠ [] := by
      intro h
      exact R.T.ne c hc (List.append_eq_nil_iff.mp h).1
    refine ⟨⟨fun _ => by (first | exact om420 hc B7 | omega), fun _ => nil_lt hne⟩, ⟨fun h => absurd h (not_lt_nil _), fun h => by (first | exact om421 hc E7 h | omega)⟩⟩
  · have hp := R.T.p7 h0 hu
    have hk := R.T.hK _ hp
    have h7 := pos_lt7 (L := L) hp
    rw [R.T.LS u h0 hu]
    have e : kkN P K L u = 8 * K (P u) + posN L (P u) + 1 := by unfold kkN; rw [if_neg (by (first | exact om345 hu h0 | omega))]
    rw [e]
    rcases Nat.lt_trichotomy (K (P u)) c with g | g | g
    · have a := split_take (R.T.split _ _ g hc) (L (P u)) (κ d) (n := (κ c ++ κ d).length) (by simp)
      exact ⟨⟨fun _ => by (first | exact om422 B7 h7 e g | omega), fun _ => a⟩, ⟨fun h => absurd h (nl_asymm a), fun h => by (first | exact om423 E7 h7 e g h | omega)⟩⟩
    · rw [g]
      have et : (κ c ++ L (P u)).take (κ c ++ κ d).length = κ c ++ (L (P u)).take (κ d).length := by
        rw [List.length_append, List.take_length_add_append]
      rw [et, nl_app_iff, nl_app_iff, (R.cmp1 hd hp).1, (R.cmp1 hd hp).2, ← R.T.cut_iff hp, ← R.T.cut_iff hp]
      (first | exact om424 e | omega)
    · have a := take_split (R.T.split _ _ g hk) (κ d) (L (P u)) (n := (κ c ++ κ d).length) (by simp)
      exact ⟨⟨fun h => absurd h (nl_asymm a), fun h => by (first | exact om425 B7 h7 e g h | omega)⟩, ⟨fun _ => by (first | exact om426 E7 h7 e g | omega), fun _ => a⟩⟩
/-- the places in the row: r permutes -/
theorem Rw.r_perm : ((List.range 7).map r).Perm (List.range 7) := by
  have hnd : ((List.range 7).map r).Nodup := by
    refine List.pairwise_map.mpr ?_
    refine List.Pairwise.imp_of_mem (R := fun a b => a < b) (fun {x y} hx hy h e => ?_) List.pairwise_lt_range
    have e1 := R.rp x (List.mem_range.mp hx)
    have e2 := R.rp y (List.mem_range.mp hy)
    rw [e] at e1
    (first | exact om427 h e1 e2 | omega)
  refine (List.perm_ext_iff_of_nodup hnd List.nodup_range).mpr fun u => ?_
  constructor
  · intro hu
    obtain ⟨j, hj, rfl⟩ := List.mem_map.mp hu
    exact List.mem_range.mpr (R.r7 j (List.mem_range.mp hj))
  · intro hu
    have h7 := List.mem_range.mp hu
    exact List.mem_map.mpr ⟨posN L u, List.mem_range.mpr (pos_lt7 h7), R.r_pos h7⟩
theorem Rw.count_last {c d : Nat} (hl : (((List.range 7).filter fun k => k != 0 && last k).map P).Perm ((List.range 7).filter inn)) :
    (List.range 7).countP (fun k => decide (cutN P K L (8 * c + cutN P K L (8 * d + 1) + 1) ≤ k) && decide (k < cutN P K L (8 * c + cutN P K L (8 * (d + 1) + 1) + 1)) && last (r k)) =
    (List.range 7).countP fun u => decide (u ≠ 0) && inn u && decide (K u = c) && decide (K (P u) = d) := by
  have B7 := cut_le7 P K L (8 * d + 1)
  have E7 := cut_le7 P K L (8 * (d + 1) + 1)
  have s1 : (List.range 7).countP (fun k => decide (cutN P K L (8 * c + cutN P K L (8 * d + 1) + 1) ≤ k) && decide (k < cutN P K L (8 * c + cutN P K L (8 * (d + 1) + 1) + 1)) && last (r k)) =
      (List.range 7).countP ((fun v => decide (v ≠ 0) && decide (P v ≠ 0) && decide (K (P v) = c) && decide (K (P (P v)) = d) && last v) ∘ r) := by
    refine List.countP_congr fun k hk => ?_
    have hk7 := List.mem_range.mp hk
    have a1 := R.T.cut_iff (X := 8 * c + cutN P K L (8 * d + 1) + 1) (R.r7 k hk7)
    have a2 := R.T.cut_iff (X := 8 * c + cutN P K L (8 * (d + 1) + 1) + 1) (R.r7 k hk7)
    rw [R.rp k hk7] at a1 a2
    simp only [Function.comp, Bool.and_eq_true, decide_eq_true_eq]
    rw [show cutN P K L (8 * c + cutN P K L (8 * d + 1) + 1) ≤ k ↔ ¬ k < cutN P K L (8 * c + cutN P K L (8 * d + 1) + 1) by (first | exact om428 | omega), a1, a2]
    have h7 := R.r7 k hk7
    generalize r k = v at h7
    rcases Nat.eq_zero_or_pos v with rfl | h0
    · simp [kkN]
    have hp := R.T.p7 h0 h7
    have hpos := pos_lt7 (L := L) hp
    have e : kkN P K L v = 8 * K (P v) + posN L (P v) + 1 := by unfold kkN; rw [if_neg (by (first | exact om345 h7 h0 | omega))]
    rw [e]
    have b1 := R.T.cut_iff (X := 8 * d + 1) hp
    have b2 := R.T.cut_iff (X := 8 * (d + 1) + 1) hp
    rcases Nat.eq_zero_or_pos (P v) with g0 | g0
    · have e0 : kkN P K L (P v) = 0 := by rw [g0]; simp [kkN]
      rw [e0] at b1 b2
      constructor
      · rintro ⟨⟨q1, q2⟩, q3⟩
        have : K (P v) = c := by (first | exact om429 B7 E7 hpos e q1 q2 | omega)
        (first | exact om430 h7 h0 e b1 b2 q1 q2 this | omega)
      · rintro ⟨⟨⟨⟨_, q⟩, _⟩, _⟩, _⟩
        exact absurd g0 q
    · have hpp := R.T.p7 g0 hp
      have hpos2 := pos_lt7 (L := L) hpp
      have e2 : kkN P K L (P v) = 8 * K (P (P v)) + posN L (P (P v)) + 1 := by unfold kkN; rw [if_neg (by (first | exact om345 hp g0 | omega))]
      rw [e2] at b1 b2
      constructor
      · rintro ⟨⟨q1, q2⟩, q3⟩
        have e3 : K (P v) = c := by (first | exact om429 B7 E7 hpos e q1 q2 | omega)
        refine ⟨⟨⟨⟨by (first | exact om431 h7 h0 | omega), by (first | exact om431 hp g0 | omega)⟩, e3⟩, by (first | exact om432 e b1 b2 hpos2 e2 q1 q2 e3 | omega)⟩, q3⟩
      · rintro ⟨⟨⟨⟨_, _⟩, e3⟩, e4⟩, q3⟩
        refine ⟨⟨by (first | exact om433 h7 h0 hp e b1 b2 g0 hpos2 e2 e4 e3 (by assumption) (by assumption) | omega), by (first | exact om434 h7 h0 hp e b2 g0 hpos2 e2 e4 e3 (by assumption) (by assumption) | omega)⟩, q3⟩
  rw [s1, ← List.countP_map, R.r_perm.countP_eq]
  have s2 : (List.range 7).countP (fun v => decide (v ≠ 0) && decide (P v ≠ 0) && decide (K (P v) = c) && decide (K (P (P v)) = d) && last v) =
      ((List.range 7).filter fun k => k != 0 && last k).countP ((fun u => decide (u ≠ 0) && decide (K u = c) && decide (K (P u) = d)) ∘ P) := by
    rw [List.countP_filter]
    refine List.countP_congr fun v _ => ?_
    simp only [Function.comp, Bool.and_eq_true, decide_eq_true_eq, bne_iff_ne]
    constructor
    · rintro ⟨⟨⟨⟨q1, q2⟩, q3⟩, q4⟩, q5⟩
      exact ⟨⟨⟨q2, q3⟩, q4⟩, q1, q5⟩
    · rintro ⟨⟨⟨q2, q3⟩, q4⟩, q1, q5⟩
      exact ⟨⟨⟨⟨q1, q2⟩, q3⟩, q4⟩, q5⟩
  rw [s2, ← List.countP_map, hl.countP_eq, List.countP_filter]
  refine List.countP_congr fun v _ => ?_
  simp only [Bool.and_eq_true, decide_eq_true_eq]
  constructor
  · rintro ⟨⟨⟨q1, q2⟩, q3⟩, q4⟩
    exact ⟨⟨⟨q1, q4⟩, q2⟩, q3⟩
  · rintro ⟨⟨⟨q1, q4⟩, q2⟩, q3⟩
    exact ⟨⟨⟨q1, q2⟩, q3⟩, q4⟩
end
end Mine
end

section
namespace Mine
/-! the tokens below a node -/
theorem toksUp_congr {q : List Nat} {f f' : Nat → List (Option Nat)} {u : Nat} : ∀ i, (∀ j, j < i → f (u + 1 + j) = f' (u + 1 + j)) → toksUp q f u i = toksUp q f' u i
  | 0, _ => rfl
  | i + 1, h => by
    unfold toksUp
    rw [toksUp_congr i fun j hj => h j (by (first | exact om228 hj | omega)), h i (by (first | exact om406 | omega))]
theorem toks_fuel {q : List Nat} : ∀ k k' u, u < 7 → 7 - u ≤ k → 7 - u ≤ k' → toksN q k u = toksN q k' u
  | 0, _, u, hu, h, _ => by (first | exact om435 hu h | omega)
  | _ + 1, 0, u, hu, _, h => by (first | exact om435 hu h | omega)
  | k + 1, k' + 1, u, hu, h, h' => by
    unfold toksN
    congr 1
    refine toksUp_congr _ fun j hj => toks_fuel k k' _ (by (first | exact om436 hu hj | omega)) (by (first | exact om437 hu h | omega)) (by (first | exact om437 hu h' | omega))
theorem toksUp_flat {q : List Nat} {f : Nat → List (Option Nat)} {u : Nat} : ∀ i, toksUp q f u i = some u :: ((List.range i).filter fun j => decide (q.getD (u + j) 9 = u)).flatMap fun j => f (u + 1 + j)
  | 0 => rfl
  | i + 1 => by
    unfold toksUp
    rw [toksUp_flat i, List.range_succ, List.filter_append, List.flatMap_append]
    by_cases e : q.getD (u + i) 9 = u
    · rw [if_pos e]
      have e' : decide (q.getD (u + i) 9 = u) = true := by simpa using e
      simp only [List.filter_cons, e', if_true, List.filter_nil, List.flatMap_cons, List.flatMap_nil, List.append_nil, List.cons_append]
    · rw [if_neg e]
      have e' : decide (q.getD (u + i) 9 = u) = false := by simpa using e
      simp only [List.filter_cons, e', List.filter_nil]
      simp
theorem toksUp_len {q : List Nat} {f : Nat → List (Option Nat)} {u : Nat} : ∀ i, i ≤ 6 - u → u < 7 → (∀ v, u < v → v < 7 → (f v).length ≤ 2 ^ (7 - v)) → (toksUp q f u i).length + 2 ^ (7 - u - i) ≤ 2 ^ (7 - u) + 1
  | 0, _, _, _ => by simp only [toksUp, List.length_cons, List.length_nil, Nat.sub_zero]; (first | exact om438 | omega)
  | i + 1, hi, hu, hf => by
    have ih := toksUp_len (q := q) i (by (first | exact om312 hi | omega)) hu hf
    have h2 := hf (u + 1 + i) (by (first | exact om439 | omega)) (by (first | exact om440 hi hu | omega))
    have e : 7 - u - i = (7 - u - (i + 1)) + 1 := by (first | exact om441 hi hu | omega)
    have e2 : 7 - (u + 1 + i) = 7 - u - (i + 1) := by (first | exact om442 | omega)
    rw [e, Nat.pow_succ] at ih
    rw [e2] at h2
    unfold toksUp
    split
    · rw [List.length_append]; (first | exact om443 ih h2 | omega)
    · (first | exact om444 ih | omega)
theorem toksN_len {q : List Nat} : ∀ k u, u < 7 → (toksN q k u).length ≤ 2 ^ (7 - u)
  | 0, u, _ => by simp [toksN]
  | k + 1, u, hu => by
    have h := toksUp_len (q := q) (f := toksN q k) (u := u) (6 - u) (Nat.le_refl _) hu fun v _ hv => toksN_len k v hv
    rw [show 7 - u - (6 - u) = 1 by (first | exact om445 hu | omega)] at h
    unfold toksN
    rw [List.length_append, List.length_singleton]
    (first | exact om446 h | omega)
theorem toksN_succ (q : List Nat) (k u : Nat) : toksN q (k + 1) u = toksUp q (toksN q k) u (6 - u) ++ [none] := rfl
/-- what hangs right below a node -/
noncomputable def kidsN (P : Nat → Nat) (u : Nat) : List Nat := (List.range 7).filter fun v => decide (1 ≤ v) && decide (P v = u)
theorem kids_mem {P : Nat → Nat} {u v : Nat} : v ∈ kidsN P u ↔ v < 7 ∧ 1 ≤ v ∧ P v = u := by simp [kidsN]
theorem sorted_eq {a b : List Nat} (ha : a.Pairwise (· < ·)) (hb : b.Pairwise (· < ·)) (h : ∀ x, x ∈ a ↔ x ∈ b) : a = b := by
  have na : a.Nodup := ha.imp fun {x y} hxy => Nat.ne_of_lt hxy
  have nb : b.Nodup := hb.imp fun {x y} hxy => Nat.ne_of_lt hxy
  exact List.Perm.eq_of_pairwise (fun x y _ _ h1 h2 => absurd h1 (Nat.lt_asymm h2)) ha hb ((List.perm_ext_iff_of_nodup na nb).mpr h)
theorem kids_sorted (P : Nat → Nat) (u : Nat) : (kidsN P u).Pairwise (· < ·) := List.Pairwise.filter _ List.pairwise_lt_range
section
variable {P : Nat → Nat} {q : List Nat} (hP : ∀ k, 1 ≤ k → k < 7 → P k < k) (hq : ∀ k, 1 ≤ k → k < 7 → q.getD (k - 1) 9 = P k)
include hP hq
theorem toks_kidsK {k u : Nat} (hk : 6 ≤ k) (hu : u < 7) : toksN q (k + 1) u = some u :: (kidsN P u).flatMap (toksN q (k + 1)) ++ [none] := by
  rw [toksN_succ q k u, toksUp_flat]
  congr 2
  have e2 : ((List.range (6 - u)).filter fun j => decide (q.getD (u + j) 9 = u)).map (fun j => u + 1 + j) = kidsN P u := by
    refine sorted_eq ?_ (kids_sorted P u) fun v => ?_
    · refine List.pairwise_map.mpr (List.Pairwise.imp (fun {a b} h => by (first | exact om447 h | omega)) (List.Pairwise.filter _ List.pairwise_lt_range))
    · rw [kids_mem, List.mem_map]
      constructor
      · rintro ⟨j, hj, rfl⟩
        have hj := List.mem_filter.mp hj
        have h6 := List.mem_range.mp hj.1
        have := hq (u + 1 + j) (by (first | exact om448 hu | omega)) (by (first | exact om436 hu h6 | omega))
        rw [show u + 1 + j - 1 = u + j by (first | exact om449 hu | omega)] at this
        refine ⟨by (first | exact om436 hu h6 | omega), by (first | exact om448 hu | omega), ?_⟩
        rw [← this]
        simpa using hj.2
      · rintro ⟨h7, h1, h2⟩
        have h3 := hP v h1 h7
        refine ⟨v - 1 - u, List.mem_filter.mpr ⟨List.mem_range.mpr (by (first | exact om450 hu h7 h1 h2 h3 | omega)), ?_⟩, by (first | exact om451 h2 h3 | omega)⟩
        have := hq v h1 h7
        rw [show u + (v - 1 - u) = v - 1 by (first | exact om452 h7 h1 h2 h3 this | omega), this, h2]
        simp
  rw [← e2, List.flatMap_map]
  have key : ∀ l : List Nat, (∀ j ∈ l, u + 1 + j < 7) → l.flatMap (fun j => toksN q k (u + 1 + j)) = l.flatMap fun j => toksN q (k + 1) (u + 1 + j) := by
    intro l
    induction l with
    | nil => intro _; rfl
    | cons a t ih =>
      intro h
      rw [List.flatMap_cons, List.flatMap_cons, ih fun j hj => h j (.tail _ hj), toks_fuel k (k + 1) (u + 1 + a) (h a (.head _)) (by (first | exact om453 hk hu | omega)) (by (first | exact om454 hk hu | omega))]
  refine key _ fun j hj => ?_
  have := List.mem_range.mp (List.mem_filter.mp hj).1
  (first | exact om436 hu this | omega)
theorem toks_kids {u : Nat} (hu : u < 7) : toksN q 7 u = some u :: (kidsN P u).flatMap (toksN q 7) ++ [none] := toks_kidsK hP hq (k := 6) (Nat.le_refl _) hu
/-- the text below a node -/
theorem text_kids {W : Nat → List Nat} {u : Nat} (hu : u < 7) : (toksN q 7 u).flatMap (tokS W fun _ => []) = 40 :: W u ++ (kidsN P u).flatMap (fun v => (toksN q 7 v).flatMap (tokS W fun _ => [])) ++ [41] := by
  rw [toks_kids hP hq hu, List.flatMap_append, List.flatMap_cons, List.flatMap_assoc]
  simp [tokS]
end
section
variable {P K dp : Nat → Nat} {κ L : Nat → List Nat} {r : Nat → Nat} {inn last : Nat → Bool} (R : Rw P K dp κ L r inn last)
include R
theorem Rw.kids_at {p : Nat} (hp : p < 7) : (List.range (cutN P K L (8 * K (r p) + p + 2) - cutN P K L (8 * K (r p) + p + 1))).map (fun i => r (cutN P K L (8 * K (r p) + p + 1) + i)) = kidsN P (r p) := by
  have c7 := cut_le7 P K L (8 * K (r p) + p + 2)
  refine sorted_eq ?_ (kids_sorted P _) fun v => ?_
  · refine List.pairwise_map.mpr (List.Pairwise.imp_of_mem (R := fun a b => a < b) (fun {a b} ha hb h => ?_) List.pairwise_lt_range)
    have ha := List.mem_range.mp ha
    have hb := List.mem_range.mp hb
    exact R.block_sorted hp rfl (by (first | exact om455 c7 hb | omega)) (Nat.le_add_right _ _) (by (first | exact om456 hb | omega)) (by (first | exact om457 h | omega))
  · rw [kids_mem, List.mem_map]
    constructor
    · rintro ⟨i, hi, rfl⟩
      have hi := List.mem_range.mp hi
      have b := R.in_block (o := cutN P K L (8 * K (r p) + p + 1) + i) hp rfl (by (first | exact om455 c7 hi | omega)) (Nat.le_add_right _ _) (by (first | exact om456 hi | omega))
      exact ⟨R.r7 _ (by (first | exact om455 c7 hi | omega)), b.1, b.2⟩
    · rintro ⟨v7, v1, hv⟩
      have b := R.of_block hp rfl v1 v7 hv
      refine ⟨posN L v - cutN P K L (8 * K (r p) + p + 1), List.mem_range.mpr (by (first | exact om458 b | omega)), ?_⟩
      rw [show cutN P K L (8 * K (r p) + p + 1) + (posN L v - cutN P K L (8 * K (r p) + p + 1)) = posN L v by (first | exact om459 b | omega)]
      exact R.r_pos v7
theorem Rw.kids_none {p : Nat} (hp : p < 7) (h : inn (r p) = false) : kidsN P (r p) = [] := by
  refine List.eq_nil_iff_forall_not_mem.mpr fun v hv => ?_
  rw [kids_mem] at hv
  have := (R.inn_iff _ (R.r7 p hp)).mpr ⟨v, hv.2.1, hv.1, hv.2.2⟩
  rw [h] at this; cases this
end
end Mine
end

section
open PySem PySem.W PyProof.Rows PySem.Calls PySem.Spec
namespace Mine
noncomputable def lawBody : List Stmt := match Challenge.pw_ux0024_01.main.body.getLast? with | some (.FunctionDef _ _ body _ _ _ _ _ _ _) => body | _ => []
noncomputable def lawScope : Scope := match Challenge.pw_ux0024_01.main.body.getLast? with | some (.FunctionDef _ _ _ _ _ _ scope _ _ _) => scope | _ => { kind := .module, names := [], isGenerator := false, isCoroutine := false }
noncomputable def hiddenL : List PySem.Str := [Str.ofString "\\\\", Str.ofString "\")\"", Str.ofString "\\\"\\(", Str.ofString "\"\\\"(\""]
noncomputable def piecesF (hand : Int) (i : Nat) : List PySem.Str := (List.range i).map fun j : Nat => hiddenL.getD (((j : Int) + hand).fmod 4).toNat (Str.ofString "")
theorem piecesF_succ (hand : Int) (i : Nat) : piecesF hand (i + 1) = piecesF hand i ++ [hiddenL.getD (((i : Int) + hand).fmod 4).toNat (Str.ofString "")] := by
  unfold piecesF
  rw [List.range_succ, List.map_append]
  rfl
theorem fr_ps {h₀ h : Heap} {L : Addr} {m : PySem.Str → Option Value} (F : Fr h₀ L h m) (ps : List (PySem.Str × Value)) (hp : ∀ p ∈ ps, m p.1 = some p.2) : Fr h₀ L h (kstB m ps) := by
  have e : kstB m ps = m := funext fun y => kstB_eq hp fun _ => rfl
  rw [e]
  exact F
theorem off1_mem' {D : Addr} {l : List (Addr × Obj)} (h : LCg.Off1 D l) : ∀ p ∈ l, @Ne Nat p.1 D := off1_mem h
theorem newsIs {h₀ h : Heap} {L : Addr} {l : List (Addr × Obj)} (_ : News h₀ L h l) : ∃ l', l' = l := ⟨l, rfl⟩
theorem list_up {h₀ h : Heap} {L a : Addr} {m : PySem.Str → Option Value} {vs : Array Value} (x : h₀.IsList a vs) (F : Fr h₀ L h m) : h.IsList a vs := by
  obtain ⟨o, e, r⟩ := x
  exact ⟨o, F.keep _ _ e, r⟩
/-- what a stage of the law leaves of the world -/
noncomputable def SameX (s s' : Shared) : Prop := s'.os = s.os ∧ s'.drawn = s.drawn ∧ (AllBare s.gens → AllBare s'.gens)
theorem SameX.trans {s s' s'' : Shared} (a : SameX s s') (b : SameX s' s'') : SameX s s'' := ⟨b.1.trans a.1, b.2.1.trans a.2.1, fun h => b.2.2 (a.2.2 h)⟩
/-- no entry lies among the law's cells -/
noncomputable def Apart (L1 : Addr) (l : List (Addr × Obj)) : Prop := ∀ p ∈ l, @LT.lt Nat _ p.1 (L1 + 1) ∨ @LT.lt Nat _ (L1 + 10) p.1
theorem Apart.ne {L1 d : Addr} {l : List (Addr × Obj)} (h : Apart L1 l) (a : @LT.lt Nat _ L1 d) (b : @LE.le Nat _ d (L1 + 10)) : ∀ p ∈ l, p.1 ≠ d := fun p hp e => by
  have := h p hp
  rw [e] at this
  (first | exact om460 a b this | omega)
theorem Apart.nil {L1 : Addr} : Apart L1 [] := fun _ h => absurd h List.not_mem_nil
theorem Apart.cons {L1 : Addr} {l : List (Addr × Obj)} {a : Addr} {o : Obj} (ha : @LT.lt Nat _ a (L1 + 1) ∨ @LT.lt Nat _ (L1 + 10) a) (h : Apart L1 l) : Apart L1 ((a, o) :: l) := fun p hp => by
  rcases List.mem_cons.mp hp with rfl | hp
  · exact ha
  · exact h p hp
theorem Apart.tail {L1 : Addr} {l : List (Addr × Obj)} {q : Addr × Obj} (h : Apart L1 (q :: l)) : Apart L1 l := fun p hp => h p (.tail _ hp)
theorem Apart.head {L1 : Addr} {l : List (Addr × Obj)} {a : Addr} {o : Obj} (h : Apart L1 ((a, o) :: l)) : @LT.lt Nat _ a (L1 + 1) ∨ @LT.lt Nat _ (L1 + 10) a := h _ (.head _)
theorem out10 {L D : Nat} (e1 : L + 1 ≠ D) (e2 : L + 1 + 1 ≠ D) (e3 : L + 1 + 1 + 1 ≠ D) (e4 : L + 1 + 1 + 1 + 1 ≠ D) (e5 : L + 1 + 1 + 1 + 1 + 1 ≠ D) (e6 : L + 1 + 1 + 1 + 1 + 1 + 1 ≠ D) (e7 : L + 1 + 1 + 1 + 1 + 1 + 1 + 1 ≠ D) (e8 : L + 1 + 1 + 1 + 1 + 1 + 1 + 1 + 1 ≠ D) (e9 : L + 1 + 1 + 1 + 1 + 1 + 1 + 1 + 1 + 1 ≠ D) (e10 : L + 1 + 1 + 1 + 1 + 1 + 1 + 1 + 1 + 1 + 1 ≠ D) : D < L + 1 ∨ L + 10 < D := by
  rcases Nat.lt_or_ge D (L + 1) with h | h
  · exact .inl h
  · exact .inr (Nat.lt_of_le_of_ne (Nat.lt_of_le_of_ne (Nat.lt_of_le_of_ne (Nat.lt_of_le_of_ne (Nat.lt_of_le_of_ne (Nat.lt_of_le_of_ne (Nat.lt_of_le_of_ne (Nat.lt_of_le_of_ne (Nat.lt_of_le_of_ne (Nat.lt_of_le_of_ne h e1) e2) e3) e4) e5) e6) e7) e8) e9) e10)
theorem apart_new {L1 D : Addr} {c1 c2 c3 c4 c5 c6 c7 c8 c9 c10 : Obj} {nw : List (Addr × Obj)} (h : ∀ p ∈ cells10 L1 c1 c2 c3 c4 c5 c6 c7 c8 c9 c10 [], p ∈ nw) (hD : ∀ p ∈ nw, @Ne Nat p.1 D) : @LT.lt Nat _ D (L1 + 1) ∨ @LT.lt Nat _ (L1 + 10) D := by
  have e1 : @Ne Nat (L1 + 1) D := hD (L1 + 1, c10) (h _ (mem_nth 9 rfl))
  have e2 : @Ne Nat (L1 + 1 + 1) D := hD (L1 + 1 + 1, c9) (h _ (mem_nth 8 rfl))
  have e3 : @Ne Nat (L1 + 1 + 1 + 1) D := hD (L1 + 1 + 1 + 1, c8) (h _ (mem_nth 7 rfl))
  have e4 : @Ne Nat (L1 + 1 + 1 + 1 + 1) D := hD (L1 + 1 + 1 + 1 + 1, c7) (h _ (mem_nth 6 rfl))
  have e5 : @Ne Nat (L1 + 1 + 1 + 1 + 1 + 1) D := hD (L1 + 1 + 1 + 1 + 1 + 1, c6) (h _ (mem_nth 5 rfl))
  have e6 : @Ne Nat (L1 + 1 + 1 + 1 + 1 + 1 + 1) D := hD (L1 + 1 + 1 + 1 + 1 + 1 + 1, c5) (h _ (mem_nth 4 rfl))
  have e7 : @Ne Nat (L1 + 1 + 1 + 1 + 1 + 1 + 1 + 1) D := hD (L1 + 1 + 1 + 1 + 1 + 1 + 1 + 1, c4) (h _ (mem_nth 3 rfl))
  have e8 : @Ne Nat (L1 + 1 + 1 + 1 + 1 + 1 + 1 + 1 + 1) D := hD (L1 + 1 + 1 + 1 + 1 + 1 + 1 + 1 + 1, c3) (h _ (mem_nth 2 rfl))
  have e9 : @Ne Nat (L1 + 1 + 1 + 1 + 1 + 1 + 1 + 1 + 1 + 1) D := hD (L1 + 1 + 1 + 1 + 1 + 1 + 1 + 1 + 1 + 1, c2) (h _ (mem_nth 1 rfl))
  have e10 : @Ne Nat (L1 + 1 + 1 + 1 + 1 + 1 + 1 + 1 + 1 + 1 + 1) D := hD (L1 + 1 + 1 + 1 + 1 + 1 + 1 + 1 + 1 + 1 + 1, c1) (h _ (mem_nth 0 rfl))
  exact out10 e1 e2 e3 e4 e5 e6 e7 e8 e9 e10
theorem apart_off {L1 D : Addr} {c1 c2 c3 c4 c5 c6 c7 c8 c9 c10 : Obj} {r : List (Addr × Obj)} (h : LCg.Off1 D (cells10 L1 c1 c2 c3 c4 c5 c6 c7 c8 c9 c10 r)) : @LT.lt Nat _ D (L1 + 1) ∨ @LT.lt Nat _ (L1 + 10) D := by
  refine apart_new (c1 := c1) (c2 := c2) (c3 := c3) (c4 := c4) (c5 := c5) (c6 := c6) (c7 := c7) (c8 := c8) (c9 := c9) (c10 := c10) (nw := cells10 L1 c1 c2 c3 c4 c5 c6 c7 c8 c9 c10 r) (fun p hp => ?_) (off1_mem' h)
  (revert p; walk_at "mine:sub")
theorem off1_rest {L1 D : Addr} {c1 c2 c3 c4 c5 c6 c7 c8 c9 c10 : Obj} {r : List (Addr × Obj)} (h : LCg.Off1 D (cells10 L1 c1 c2 c3 c4 c5 c6 c7 c8 c9 c10 r)) : ∀ p ∈ r, p.1 ≠ D := fun p hp => off1_mem' h p (sub_behind 10 rfl p hp)
theorem due_len {hand : Int} (hh : hand = 0 ∨ hand = 1 ∨ hand = 2) {y : PySem.Str} (hs : IsSign y) : (due hand y).length ≤ 6 := by
  rcases hh with rfl | rfl | rfl <;> rcases hs with rfl | rfl | rfl | rfl <;> decide
theorem strs_rep (y : PySem.Str) (t : Tok) : ∀ n : Nat, StrsAre (List.replicate n (Value.str y t)) (List.replicate n y)
  | 0 => .nil
  | n + 1 => .cons y t (strs_rep y t n)
theorem rep_getD (i : Nat) : (List.replicate 7 (Str.ofString "")).getD i (Str.ofString "") = Str.ofString "" := by
  rw [List.getD_eq_getElem?_getD]
  cases e : (List.replicate 7 (Str.ofString ""))[i]? with
  | none => rfl
  | some y => rw [Option.getD_some, List.eq_of_mem_replicate (List.mem_of_getElem? e)]
theorem noGen_cell {o : Obj} {v : Option Value} (h : o.data = .cell v) : ¬ genCls o := by
  rintro ⟨_, vs, e⟩
  rw [h] at e; cases e
theorem noGen_tup {vs : Array Value} : ¬ genCls (tupObj vs) := by
  rintro ⟨h, _⟩
  rcases h with h | h | h <;> exact absurd (Value.type.inj h) (by decide)
theorem noGen_more {L1 lt la lw : Addr} {va vw vt : Array Value} {na nw : Nat} {c1 c2 c3 c4 c5 c6 c7 c8 c9 c10 c5' c6' : Obj} {news : List (Addr × Obj)} {v5 v6 : Option Value} (h : NoGen (cells10 L1 c1 c2 c3 c4 c5 c6 c7 c8 c9 c10 news)) (e5 : c5'.data = .cell v5) (e6 : c6'.data = .cell v6) :
    NoGen ((lt, tupObj vt) :: (lw, listOf vw nw) :: (la, listOf va na) :: cells10 L1 c1 c2 c3 c4 c5' c6' c7 c8 c9 c10 news) := by
  intro p hp
  simp only [cells10, List.mem_cons] at hp
  have g : ∀ q ∈ cells10 L1 c1 c2 c3 c4 c5 c6 c7 c8 c9 c10 news, ¬ genCls q.2 := h
  simp only [cells10, List.forall_mem_cons] at g
  obtain ⟨g1, g2, g3, g4, g5, g6, g7, g8, g9, g10, g11⟩ := g
  rcases hp with rfl | rfl | rfl | rfl | rfl | rfl | rfl | rfl | rfl | rfl | rfl | rfl | rfl | hp
  · exact noGen_tup
  · exact noGen_list
  · exact noGen_list
  · exact g1
  · exact g2
  · exact g3
  · exact g4
  · exact noGen_cell e5
  · exact noGen_cell e6
  · exact g7
  · exact g8
  · exact g9
  · exact g10
  · exact g11 p hp
theorem last_two {α : Type} {vs : List α} {n : Nat} (h : vs.length = n + 2) {x y : α} (hx : vs[n]? = some x) (hy : vs[n + 1]? = some y) : vs = vs.take n ++ [x, y] := by
  refine List.ext_getElem? fun i => ?_
  rcases Nat.lt_or_ge i n with g | g
  · rw [List.getElem?_append_left (by rw [List.length_take]; (first | exact om462 h g | omega)), List.getElem?_take, if_pos g]
  · rw [List.getElem?_append_right (by rw [List.length_take]; (first | exact om463 h g | omega)), List.length_take, Nat.min_eq_left (by (first | exact om464 h | omega))]
    rcases (show i = n ∨ i = n + 1 ∨ n + 2 ≤ i by (first | exact om465 g | omega)) with rfl | rfl | g2
    · rw [Nat.sub_self, hx]; rfl
    · rw [show n + 1 - n = 1 by (first | exact om466 | omega), hy]; rfl
    · rw [List.getElem?_eq_none (by (first | exact om467 h g2 | omega)), List.getElem?_eq_none (by show 2 ≤ i - n; (first | exact om468 g2 | omega))]
theorem News_more {h₀ h : Heap} {L T : Addr} {o : Obj} {news : List (Addr × Obj)} (N : News h₀ L h news) (g : h.get? T = some o) (n : T ≠ L) (b : h₀.get? T = none) : News h₀ L h ((T, o) :: news) := by
  intro p hp
  rcases List.mem_cons.mp hp with rfl | hp
  · exact ⟨g, n, b⟩
  · exact N p hp
theorem bare_end {G : Array GenState} {gs : GenState} (h : AllBare G) (hb : gs.bare = true) : AllBare ((G.push gs).setIfInBounds G.size GenState.finished) := by
  intro y hy
  rcases Array.mem_or_eq_of_mem_setIfInBounds hy with h2 | h2
  · exact h.push hb y h2
  · rw [h2]; rfl
theorem cells_ne {L1 : Addr} {c1 c2 c3 c4 c5 c6 c7 c8 c9 c10 : Obj} {r : List (Addr × Obj)} {d : Addr} (h : ∀ p ∈ r, p.1 ≠ d) (hd : @LT.lt Nat _ d (L1 + 1)) : ∀ p ∈ cells10 L1 c1 c2 c3 c4 c5 c6 c7 c8 c9 c10 r, p.1 ≠ d := by
  intro p hp
  simp only [cells10, List.mem_cons] at hp
  rcases hp with rfl | rfl | rfl | rfl | rfl | rfl | rfl | rfl | rfl | rfl | hp
  · show @Ne Nat _ _; (first | exact om469 hd | omega)
  · show @Ne Nat _ _; (first | exact om470 hd | omega)
  · show @Ne Nat _ _; (first | exact om471 hd | omega)
  · show @Ne Nat _ _; (first | exact om472 hd | omega)
  · show @Ne Nat _ _; (first | exact om473 hd | omega)
  · show @Ne Nat _ _; (first | exact om474 hd | omega)
  · show @Ne Nat _ _; (first | exact om475 hd | omega)
  · show @Ne Nat _ _; (first | exact om476 hd | omega)
  · show @Ne Nat _ _; (first | exact om477 hd | omega)
  · show @Ne Nat _ _; (first | exact om478 hd | omega)
  · exact h p hp
theorem news_198 {h₀ h : Heap} {L L1 : Addr} {c1 c2 c3 c4 c5 c6 c7 c8 c9 c10 : Obj} {a b t : Addr × Obj} {r : List (Addr × Obj)} (N : News h₀ L h (cells10 L1 c1 c2 c3 c4 c5 c6 c7 c8 c9 c10 (a :: b :: t :: r))) : News h₀ L h (t :: cells10 L1 c1 c2 c3 c4 c5 c6 c7 c8 c9 c10 (a :: b :: r)) := newsSub N _ (by walk_at "mine:sub")
theorem Apart.app {L1 : Addr} {l l' : List (Addr × Obj)} (h : Apart L1 l) (h' : Apart L1 l') : Apart L1 (l ++ l') := fun p hp => by
  rcases List.mem_append.mp hp with hp | hp
  · exact h p hp
  · exact h' p hp
theorem objOf {o : Obj} {d : Data} (_ : o.data = d) : ∃ x, x = o := ⟨o, rfl⟩
theorem all_lt_ne {news : List (Addr × Obj)} {L d : Addr} (h : ∀ p ∈ news, @LT.lt Nat _ p.1 L) (hd : @LE.le Nat _ L d) : ∀ p ∈ news, p.1 ≠ d := fun p hp => Nat.ne_of_lt (Nat.lt_of_lt_of_le (h p hp) hd)
open Classical in
theorem RefsAre.shrink {more : List (Addr × Obj)} : ∃ more', (∀ p ∈ more', p ∈ more) ∧ (∀ p ∈ more', ∃ (va : List Value) (na : Nat), p.2 = listOf va.toArray na) ∧ ∀ vp ps, RefsAre more vp ps → RefsAre more' vp ps := by
  refine ⟨more.filter fun p => decide (∃ (va : List Value) (na : Nat), p.2 = listOf va.toArray na), fun p hp => (List.mem_filter.mp hp).1, fun p hp => by simpa using (List.mem_filter.mp hp).2, fun vp ps h j hj => ?_⟩
  obtain ⟨a, va, na, e1, e2, e3⟩ := h j hj
  exact ⟨a, va, na, e1, List.mem_filter.mpr ⟨e2, by simp only [decide_eq_true_eq]; exact ⟨va, na, rfl⟩⟩, e3⟩
theorem apart_lists {h₀ h : Heap} {L L1 : Addr} {c1 c2 c3 c4 c5 c6 c7 c8 c9 c10 : Obj} {r l : List (Addr × Obj)} (N : News h₀ L h (cells10 L1 c1 c2 c3 c4 c5 c6 c7 c8 c9 c10 r)) (Nl : News h₀ L h l) (hl : ∀ p ∈ l, ∃ (va : List Value) (na : Nat), p.2 = listOf va.toArray na)
    (hcs : ∀ p ∈ cells10 L1 c1 c2 c3 c4 c5 c6 c7 c8 c9 c10 [], ∃ v, p.2.data = .cell v) : Apart L1 l := by
  intro p hp
  have key : ∀ q ∈ cells10 L1 c1 c2 c3 c4 c5 c6 c7 c8 c9 c10 [], @Ne Nat p.1 q.1 := by
    intro q hq e
    have hq2 : q ∈ cells10 L1 c1 c2 c3 c4 c5 c6 c7 c8 c9 c10 [] ++ r := List.mem_append_left _ hq
    have e1 := (N q hq2).1
    have e2 := (Nl p hp).1
    rw [e, e1] at e2
    obtain ⟨va, na, e3⟩ := hl p hp
    obtain ⟨v, e4⟩ := hcs q hq
    rw [← Option.some.inj e2, ] at e3
    rw [e3] at e4
    cases e4
  simp only [cells10, List.forall_mem_cons] at key
  obtain ⟨k1, k2, k3, k4, k5, k6, k7, k8, k9, k10, _⟩ := key
  exact out10 (Ne.symm k10) (Ne.symm k9) (Ne.symm k8) (Ne.symm k7) (Ne.symm k6) (Ne.symm k5) (Ne.symm k4) (Ne.symm k3) (Ne.symm k2) (Ne.symm k1)
theorem refs_lists {more news : List (Addr × Obj)} {lp : Addr} {vp : List Value} {np : Nat} {ps : Nat → List Int} (h : RefsAre more vp ps) (h4 : vp.length = 4) (hm : (lp, listOf vp.toArray np) ∈ news) (hs : ∀ p ∈ more, p ∈ news) : ListsIn news lp ((List.range 4).map ps) := by
  refine ⟨vp, np, hm, by simp [h4], fun j l hl => ?_⟩
  have hj : j < 4 := by simpa using lt_of_some hl
  rw [List.getElem?_map, List.getElem?_range hj] at hl
  have hl := Option.some.inj hl
  subst hl
  obtain ⟨a, va, na, e1, e2, e3⟩ := h j (by (first | exact om7 h4 hj | omega))
  exact ⟨a, va, na, e1, hs _ e2, e3⟩
section
variable {prog : Program} {w : World} {A : Around} {E : Value → Shared → Prop} {s : Shared} {value slice : PySem.Expr} {l L : Addr} {h₀ : Heap} {news : List (Addr × Obj)} {n : Nat} {k : Nat} {u : Tok} {Q : Value → Shared → Prop}
theorem item_strsN {vs : List Value} {ss : List PySem.Str} (N : News h₀ L s.heap news) (hm : (l, listOf vs.toArray n) ∈ news) (hss : StrsAre vs ss) (hk : k < ss.length) (hz : ss.length ≤ 100) (h : ∀ t, Q (.str (ss.getD k (Str.ofString "")) t) s)
    (hs : subscripted slice false (.ref l) (.int (k : Nat) u) = operate [.ref l, .int (k : Nat) u] (getItem (.ref l) (.int (k : Nat) u))) :
    wpAny (model prog w) A (subscriptTail value slice (.ref l) (.int (k : Nat) u)) Q E s :=
  item_strs N hm hss (by (first | exact om270 | omega)) (by (first | exact om480 hk | omega)) (by (first | exact om481 hk hz | omega)) (fun t => by rw [Int.toNat_natCast]; exact h t) hs
theorem item_intsN {vs : List Value} {ss : List Int} (N : News h₀ L s.heap news) (hm : (l, listOf vs.toArray n) ∈ news) (hss : IntsAre vs ss) (hk : k < ss.length) (hz : ss.length ≤ 100) (h : ∀ t, Q (.int (ss.getD k 0) t) s)
    (hs : subscripted slice false (.ref l) (.int (k : Nat) u) = operate [.ref l, .int (k : Nat) u] (getItem (.ref l) (.int (k : Nat) u))) :
    wpAny (model prog w) A (subscriptTail value slice (.ref l) (.int (k : Nat) u)) Q E s :=
  item_ints N hm hss (by (first | exact om270 | omega)) (by (first | exact om480 hk | omega)) (by (first | exact om481 hk hz | omega)) (fun t => by rw [Int.toNat_natCast]; exact h t) hs
theorem item_ledR {vs : List Value} {v : Value} (N : News h₀ L s.heap news) (hm : (l, listOf vs.toArray n) ∈ news) (hk : k ≤ 100) (hx : vs[k]? = some v) (h : Q v s)
    (hs : subscripted slice false (.ref l) (.int (k : Nat) u) = operate [.ref l, .int (k : Nat) u] (getItem (.ref l) (.int (k : Nat) u))) :
    wpAny (model prog w) A (subscriptTail value slice (.ref l) (.int (k : Nat) u)) Q E s :=
  item_led N hm (by (first | exact om482 hk | omega)) (by (first | exact om483 hk | omega)) (by simpa using hx) h hs
theorem item_tailR {vs : List Value} {v : Value} (N : News h₀ L s.heap news) (hm : (l, listOf vs.toArray n) ∈ news) (hk : k ≤ 100) (hx : vs[k]? = some v) (h : Q v s)
    (hs : subscripted slice false (.ref l) (.int (k : Nat) u) = operate [.ref l, .int (k : Nat) u] (getItem (.ref l) (.int (k : Nat) u))) :
    wpAny (model prog w) A (subscriptTail value slice (.ref l) (.int (k : Nat) u)) Q E s := by
  have hl : s.heap.IsList l vs.toArray := ⟨_, (N _ hm).1, rfl, _, rfl⟩
  exact tail_opsR hl.typeIs slot_list_getitem.lookup (wpAny_getItem_list hl (by (first | exact om482 hk | omega)) (by (first | exact om483 hk | omega)) (by simpa using hx) h) hs
theorem item_lastR {vs : List Value} {v : Value} {u : Tok} (N : News h₀ L s.heap news) (hm : (l, listOf vs.toArray n) ∈ news) (hx : vs.getLast? = some v) (h : Q v s)
    (hs : subscripted slice false (.ref l) (.int (-1) u) = operate [.ref l, .int (-1) u] (getItem (.ref l) (.int (-1) u))) :
    wpAny (model prog w) A (subscriptTail value slice (.ref l) (.int (-1) u)) Q E s := by
  have hl : s.heap.IsList l vs.toArray := ⟨_, (N _ hm).1, rfl, _, rfl⟩
  have hne : vs ≠ [] := by intro e; rw [e] at hx; cases hx
  have hpos : 0 < vs.length := List.length_pos_iff.mpr hne
  refine tail_opsR hl.typeIs slot_list_getitem.lookup (wpAny_getItem_list_neg hl (by decide) ?_ (by decide) (x := v) ?_ h) hs
  · rw [List.size_toArray]; (first | exact om254 hpos | omega)
  · rw [List.size_toArray, List.getElem?_toArray, ← hx, List.getLast?_eq_getElem?]
    congr 1
    (first | exact om255 hpos | omega)
end
theorem tabF_217 (tab : Option ((Addr × Obj) × (Addr × Obj))) : ∃ o, ((217, o) : Addr × Obj) ∈ tabF tab := by
  cases tab with
  | none => exact ⟨_, .head _⟩
  | some p => obtain ⟨⟨a, b⟩, ⟨c, d⟩⟩ := p; exact ⟨_, .head _⟩
noncomputable def tabRow (ab : List Int) (wd : List PySem.Str) (k : Int) : TRow := (wd.getD k.toNat (Str.ofString ""), !((ab.drop (k.toNat + 1)).any (· == ab.getD k.toNat 0)), ab.any (· == k))
noncomputable def lastAt (tb : List TRow) (k : Int) : Bool := match tb[k.toNat]? with | some r => r.2.1 | none => false
noncomputable def suchAt (ab : List Int) (wd ks : List PySem.Str) (i ui : Nat) (k : Int) : Bool := ab.any (· == k) && (wd.getD k.toNat (Str.ofString "") == ks.getD i (Str.ofString "")) && (wd.getD (ab.getD k.toNat 0).toNat (Str.ofString "") == ks.getD ui (Str.ofString ""))
structure LoopAt (ks ws wd : List PySem.Str) (row ab : List Int) (tb : List TRow) (ps bs : Nat → List Int) (ui i cl cr cutL cutR : Nat) : Prop where
  le : cl ≤ cr
  le7 : cr ≤ 7
  hpl : ∀ j : Nat, j < row.length → decide ((foundF ws (ks.getD i (Str.ofString "") ++ ks.getD ui (Str.ofString "")) (row.getD j 0)).cps.toList < (ks.getD i (Str.ofString "") ++ ks.getD ui (Str.ofString "")).cps.toList) = decide (j < cl)
  hpr : ∀ j : Nat, j < row.length → decide ((ks.getD i (Str.ofString "") ++ ks.getD ui (Str.ofString "")).cps.toList < (foundF ws (ks.getD i (Str.ofString "") ++ ks.getD ui (Str.ofString "")) (row.getD j 0)).cps.toList) = decide (cr ≤ j)
  p7 : (ps i).length ≤ 7
  b8 : (bs i).length ≤ 8
  cL : cutL ≤ (ps i).length
  pL : ∀ j : Nat, j < (ps i).length → ((ps i).getD j 0 < (bs ui).getD 0 0 ↔ j < cutL)
  sL : (bs i)[cutL]? = some (cl : Int)
  cR : cutR ≤ (ps i).length
  pR : ∀ j : Nat, j < (ps i).length → ((bs ui).getLastD 0 - 1 < (ps i).getD j 0 ↔ cutR ≤ j)
  sR : (bs i)[cutR]? = some (cr : Int)
  cnt : ((rangeKs (cl : Int) (cr - cl)).filter (lastAt tb)).length = ((rangeKs 1 6).filter (suchAt ab wd ks i ui)).length
theorem tab_off {h₀ h : Heap} {L I c : Addr} {it oc : Obj} {v : Option Value} {all : List (Addr × Obj)} {tab' : (Addr × Obj) × (Addr × Obj)} (N : News h₀ L h all) (ht : tabFP (some tab')) (hsub : ∀ p ∈ tabF (some tab'), p ∈ all) (hI : (I, it) ∈ all) (hit : ∃ x l, it.data = .fields #[rawInt x, rawInt l, rawInt 1])
    (hc : (c, oc) ∈ all) (hoc : oc.data = .cell v) (h1 : @Ne Nat I 217) (h2 : @Ne Nat c 217) : ∀ p ∈ tabF (some tab'), p.1 ≠ I ∧ p.1 ≠ c := by
  have key : ∀ (k : Addr) (o : Obj), (k, o) ∈ tabF (some tab') → codeP o → k ≠ I ∧ k ≠ c := by
    rintro k o hk ⟨vs, t, e1, e2⟩
    have g := (N _ (hsub _ hk)).1
    constructor
    · rintro rfl
      have g2 := (N _ hI).1
      have e := g.symm.trans g2
      have e : o = it := Option.some.inj e
      obtain ⟨x, l, e3⟩ := hit
      rw [e, e3] at e1
      have e1 : #[rawInt x, rawInt l, rawInt 1] = vs := by injection e1
      rw [← e1] at e2
      cases e2
    · rintro rfl
      have g2 := (N _ hc).1
      have e := g.symm.trans g2
      have e : o = oc := Option.some.inj e
      rw [e, hoc] at e1
      cases e1
  intro p hp
  obtain ⟨⟨k1, o1⟩, ⟨k2, o2⟩⟩ := tab'
  obtain ⟨q1, q2⟩ := ht
  have hp2 := hp
  simp only [tabF, List.mem_cons, List.not_mem_nil, or_false] at hp
  rcases hp with rfl | rfl | rfl
  · exact ⟨Ne.symm h1, Ne.symm h2⟩
  · exact key k1 o1 hp2 q1
  · exact key k2 o2 hp2 q2
end Mine
end

section
open PySem PySem.W PyProof.Rows PySem.Calls PySem.Spec
namespace Mine
/-! the table, the blocks, the grown line -/
structure Tb (P K dp : Nat → Nat) (κ L : Nat → List Nat) (r : Nat → Nat) (inn last : Nat → Bool) (ks : List PySem.Str) (wd : Nat → PySem.Str) (tb : List TRow) : Prop where
  R : Rw P K dp κ L r inn last
  k4 : ks.length = 4
  kc : ∀ i y, ks[i]? = some y → cpl y = κ i
  kw : ∀ u, u < 7 → ks[K u]? = some (wd u)
  t7 : tb.length = 7
  tr : ∀ k, k < 7 → tb[k]? = some (wd (r k), last (r k), inn (r k))
noncomputable def castL (l : List Nat) : List Int := l.map fun k : Nat => (k : Int)
theorem castL_at {l : List Nat} {i k : Nat} (h : l[i]? = some k) : (castL l)[i]? = some (k : Int) := by
  unfold castL
  rw [List.getElem?_map, h]; rfl
theorem split_ne {a b : List Nat} (h : splitB a b = true) : a ≠ b := by
  intro e
  have := split_lt h [] []
  rw [e] at this
  exact nl_irr _ this
section
variable {P K dp : Nat → Nat} {κ L : Nat → List Nat} {r : Nat → Nat} {inn last : Nat → Bool} {ks : List PySem.Str} {wd : Nat → PySem.Str} {tb : List TRow} (X : Tb P K dp κ L r inn last ks wd tb)
include X
theorem Tb.kinj {i j : Nat} {y : PySem.Str} (hi : ks[i]? = some y) (hj : ks[j]? = some y) : i = j := by
  have hi4 : i < 4 := by rw [← X.k4]; exact lt_of_some hi
  have hj4 : j < 4 := by rw [← X.k4]; exact lt_of_some hj
  have e : κ i = κ j := (X.kc i y hi).symm.trans (X.kc j y hj)
  rcases Nat.lt_trichotomy i j with h | h | h
  · exact absurd e (split_ne (X.R.T.split i j h hj4))
  · exact h
  · exact absurd e.symm (split_ne (X.R.T.split j i h hi4))
theorem Tb.row {k : Nat} {a : TRow} (h : tb[k]? = some a) : k < 7 ∧ a = (wd (r k), last (r k), inn (r k)) := by
  have hk : k < 7 := by rw [← X.t7]; exact lt_of_some h
  rw [X.tr k hk] at h
  exact ⟨hk, (Option.some.inj h).symm⟩
theorem Tb.blocks : BlocksAre tb ks (fun c => castL (psN K r inn c)) (fun c => castL (bsN P K r L inn c)) where
  place := fun i nm hnm => by
    show castL _ = _
    unfold castL psN rangeKs
    rw [List.filter_map]
    have e : (fun k : Nat => (0 : Int) + (k : Int)) = fun k : Nat => (k : Int) := funext fun k => Int.zero_add _
    rw [e]
    congr 1
    refine List.filter_congr fun p hp => ?_
    have hp7 := List.mem_range.mp hp
    simp only [Function.comp, Int.toNat_natCast, X.tr p hp7]
    congr 1
    have hw := X.kw (r p) (X.R.r7 p hp7)
    rw [Bool.eq_iff_iff, decide_eq_true_eq, decide_eq_true_eq]
    constructor
    · rintro rfl
      rw [hw] at hnm
      exact Option.some.inj hnm
    · rintro rfl
      exact X.kinj hw hnm
  size := fun i _ => by simp [castL, bsN_len]
  first := by
    have := X.R.first 0
    rw [X.R.cut1] at this
    exact castL_at this
  next := fun i _ => by
    have a := X.R.first (i + 1)
    have b := X.R.bs_end i
    show (castL _)[0]? = (castL _)[(castL _).length]?
    rw [castL_at a, show (castL (psN K r inn i)).length = (psN K r inn i).length by simp [castL], castL_at b]
  block := fun i _ j hj => by
    have hj' : j < (psN K r inn i).length := by simpa [castL] using hj
    have hm : (psN K r inn i)[j] ∈ psN K r inn i := List.getElem_mem hj'
    have ⟨c1, c2⟩ := X.R.count_at hj'
    have h7 := (psN_mem.mp hm).1
    have b1 := X.R.bs_at (c := i) (X := (psN K r inn i)[j]) (by (first | exact om383 hj' h7 | omega))
    have b2 := X.R.bs_at (c := i) (X := (psN K r inn i)[j] + 1) (by (first | exact om484 hj' h7 | omega))
    rw [c1] at b1
    rw [c2] at b2
    have ⟨g1, g2, g3, g4⟩ := X.R.block hm
    refine ⟨_, _, castL_at b1, castL_at b2, g1, g2, fun k a hk1 hk2 ha => ?_, fun a ha => ?_⟩
    · have ⟨_, e⟩ := X.row ha
      rw [e]
      exact g3 k hk1 hk2
    · have ⟨_, e⟩ := X.row ha
      rw [e]
      exact g4
noncomputable def txtN (q : List Nat) (wd : Nat → PySem.Str) (u : Nat) : List Nat := (toksN q 7 u).flatMap (tokS (fun u => cpl (wd u)) fun _ => [])
noncomputable def grownG (q : List Nat) (wd : Nat → PySem.Str) (r : Nat → Nat) (k : Nat) : PySem.Str := ⟨(txtN q wd (r k)).toArray⟩
omit X in
theorem cpl_grownG (q : List Nat) (wd : Nat → PySem.Str) (r : Nat → Nat) (k : Nat) : cpl (grownG q wd r k) = txtN q wd (r k) := rfl
omit X in
theorem cpl_growUp (G : Nat → PySem.Str) (line : PySem.Str) (b : Nat) : ∀ i, cpl (growUp G line b i) = cpl line ++ (List.range i).flatMap fun j => cpl (G (b + j))
  | 0 => by simp [growUp]
  | i + 1 => by
    rw [growUp, cpl_app, cpl_growUp G line b i, List.range_succ, List.flatMap_append]
    simp
theorem Tb.inner {q : List Nat} (hq : ∀ k, 1 ≤ k → k < 7 → q.getD (k - 1) 9 = P k) {k : Nat} (hk : k < 7) (hin : inn (r k) = true) :
    InnerAt ks ((List.range 4).map fun c => castL (psN K r inn c)) ((List.range 4).map fun c => castL (bsN P K r L inn c)) (grownG q wd r) (fun k => 6 - r k) k (wd (r k)) := by
  have hm : k ∈ psN K r inn (K (r k)) := psN_mem.mpr ⟨hk, rfl, hin⟩
  obtain ⟨j, hj, hjk⟩ := List.getElem_of_mem hm
  have hK := X.R.T.hK _ (X.R.r7 k hk)
  have ⟨c1, c2⟩ := X.R.count_at hj
  rw [hjk] at c1 c2
  have b1 := X.R.bs_at (c := K (r k)) (X := k) (by (first | exact om485 hk hj hjk | omega))
  have b2 := X.R.bs_at (c := K (r k)) (X := k + 1) (by (first | exact om486 hk hj hjk | omega))
  rw [c1] at b1
  rw [c2, show 8 * K (r k) + (k + 1) + 1 = 8 * K (r k) + k + 2 by (first | exact om487 hj | omega)] at b2
  have ⟨g1, g2, g3, g4⟩ := X.R.block hm
  have gl := psN_len K r inn (K (r k))
  have gb := bsN_len P K r L inn (K (r k))
  refine ⟨⟨K (r k), j, _, _, castL (psN K r inn (K (r k))), castL (bsN P K r L inn (K (r k))), X.kw _ (X.R.r7 k hk), ?_, ?_, ?_, ?_, ?_, ?_, castL_at b1, castL_at b2, ?_, Nat.le_of_lt g1, g2, ?_, ?_⟩⟩
  · intro i hi e
    have := X.kinj e (X.kw _ (X.R.r7 k hk))
    (first | exact om488 hj hi this | omega)
  · rw [List.getElem?_map, List.getElem?_range hK]; rfl
  · refine castL_at ?_
    rw [List.getElem?_eq_getElem hj, hjk]
  · intro i hi e
    have hi' : i < (psN K r inn (K (r k))).length := by (first | exact om489 hj c1 c2 gb hi | omega)
    rw [castL_at (List.getElem?_eq_getElem hi')] at e
    have e2 := Option.some.inj e
    have := List.pairwise_iff_getElem.mp (psN_sorted K r inn (K (r k))) i j hi' hj hi
    (first | exact om490 hj hjk hi' e2 this | omega)
  · simp only [castL, List.length_map]; (first | exact om491 hj gl gb | omega)
  · rw [List.getElem?_map, List.getElem?_range hK]; rfl
  · simp only [castL, List.length_map]; (first | exact om492 hj gl gb | omega)
  · intro o o1 o2
    have b := X.R.in_block (p := k) hk rfl (by (first | exact om493 hj g2 o2 | omega)) o1 o2
    have h7 := X.R.r7 o (by (first | exact om493 hj g2 o2 | omega))
    have := X.R.T.hP _ b.1 h7
    rw [b.2] at this
    show 6 - r o < 6 - r k
    (first | exact om494 hj b h7 this | omega)
  · refine cpl_ext ?_
    rw [cpl_app, cpl_growUp, cpl_app, cpl_grownG]
    have ht : txtN q wd (r k) = _ := text_kids (W := fun u => cpl (wd u)) X.R.T.hP hq (X.R.r7 k hk)
    rw [ht, ← X.R.kids_at hk, List.flatMap_map]
    rfl
theorem Tb.leaf {q : List Nat} (hq : ∀ k, 1 ≤ k → k < 7 → q.getD (k - 1) 9 = P k) {k : Nat} (hk : k < 7) (hin : inn (r k) = false) : grownG q wd r k = Str.ofString "(" ++ wd (r k) ++ Str.ofString ")" := by
  refine cpl_ext ?_
  rw [cpl_app, cpl_app, cpl_grownG]
  have ht : txtN q wd (r k) = _ := text_kids (W := fun u => cpl (wd u)) X.R.T.hP hq (X.R.r7 k hk)
  rw [ht, X.R.kids_none hk hin]
  simp only [List.flatMap_nil, List.append_nil]
  rfl
end
end Mine
end

section
open PySem PySem.W PyProof.Rows PySem.Calls PySem.Spec
namespace Mine
/-! the drawn tree's shape, its names, the pieces -/
noncomputable def shapeQ (sc : List Int) : List Nat := (List.range 6).map fun j : Nat => ((cellF sc (1 + (j : Int))).fmod (1 + (j : Int))).toNat
theorem shapeQ_len (sc : List Int) : (shapeQ sc).length = 6 := by simp [shapeQ]
theorem shape_lt (sc : List Int) (j : Nat) : 0 ≤ (cellF sc (1 + (j : Int))).fmod (1 + (j : Int)) ∧ ((cellF sc (1 + (j : Int))).fmod (1 + (j : Int))).toNat < 1 + j := by
  have h1 := Int.fmod_nonneg_of_pos (cellF sc (1 + (j : Int))) (show (0 : Int) < 1 + (j : Int) by (first | exact om495 | omega))
  have h2 := Int.fmod_lt_of_pos (cellF sc (1 + (j : Int))) (show (0 : Int) < 1 + (j : Int) by (first | exact om495 | omega))
  (first | exact om496 h1 h2 | omega)
theorem shape_ab (sc : List Int) : treeAb sc 6 = -1 :: (shapeQ sc).map fun k : Nat => (k : Int) := by
  unfold treeAb shapeQ
  rw [List.map_map]
  congr 1
  refine List.map_congr_left fun j _ => ?_
  have := (shape_lt sc j).1
  simp only [Function.comp]
  (first | exact om497 this | omega)
theorem shape_check (sc : List Int) : check (shapeQ sc) = true := by
  have a0 := (shape_lt sc 0).2
  have a1 := (shape_lt sc 1).2
  have a2 := (shape_lt sc 2).2
  have a3 := (shape_lt sc 3).2
  have a4 := (shape_lt sc 4).2
  have a5 := (shape_lt sc 5).2
  have e : shapeQ sc = [((cellF sc (1 + ((0 : Nat) : Int))).fmod (1 + ((0 : Nat) : Int))).toNat, ((cellF sc (1 + ((1 : Nat) : Int))).fmod (1 + ((1 : Nat) : Int))).toNat, ((cellF sc (1 + ((2 : Nat) : Int))).fmod (1 + ((2 : Nat) : Int))).toNat, ((cellF sc (1 + ((3 : Nat) : Int))).fmod (1 + ((3 : Nat) : Int))).toNat, ((cellF sc (1 + ((4 : Nat) : Int))).fmod (1 + ((4 : Nat) : Int))).toNat, ((cellF sc (1 + ((5 : Nat) : Int))).fmod (1 + ((5 : Nat) : Int))).toNat] := rfl
  rw [e]
  generalize ((cellF sc (1 + ((0 : Nat) : Int))).fmod (1 + ((0 : Nat) : Int))).toNat = b0 at a0
  generalize ((cellF sc (1 + ((1 : Nat) : Int))).fmod (1 + ((1 : Nat) : Int))).toNat = b1 at a1
  generalize ((cellF sc (1 + ((2 : Nat) : Int))).fmod (1 + ((2 : Nat) : Int))).toNat = b2 at a2
  generalize ((cellF sc (1 + ((3 : Nat) : Int))).fmod (1 + ((3 : Nat) : Int))).toNat = b3 at a3
  generalize ((cellF sc (1 + ((4 : Nat) : Int))).fmod (1 + ((4 : Nat) : Int))).toNat = b4 at a4
  generalize ((cellF sc (1 + ((5 : Nat) : Int))).fmod (1 + ((5 : Nat) : Int))).toNat = b5 at a5
  have b00 : b0 = 0 := by (first | exact om498 a0 | omega)
  subst b00
  exact check_all ⟨b1, by (first | exact om499 a1 | omega)⟩ ⟨b2, by (first | exact om500 a2 | omega)⟩ ⟨b3, by (first | exact om501 a3 | omega)⟩ ⟨b4, by (first | exact om502 a4 | omega)⟩ ⟨b5, by (first | exact om503 a5 | omega)⟩
theorem sign_is (i : Int) : IsSign (signAt (i.fmod 4)) := by
  have h1 := Int.fmod_nonneg_of_pos i (show (0 : Int) < 4 by decide)
  have h2 := Int.fmod_lt_of_pos i (show (0 : Int) < 4 by decide)
  generalize i.fmod 4 = j at h1 h2
  rcases (show j = 0 ∨ j = 1 ∨ j = 2 ∨ j = 3 by (first | exact om504 h1 h2 | omega)) with rfl | rfl | rfl | rfl
  · exact .inl (by decide)
  · exact .inr (.inl (by decide))
  · exact .inr (.inr (.inl (by decide)))
  · exact .inr (.inr (.inr (by decide)))
theorem tree_signs (sc : List Int) : ∀ y ∈ treeSg sc 6, IsSign y := by
  intro y hy
  rcases List.mem_cons.mp hy with rfl | hy
  · exact sign_is _
  · obtain ⟨j, _, rfl⟩ := List.mem_map.mp hy
    exact sign_is _
theorem treeSg_len (sc : List Int) : (treeSg sc 6).length = 7 := by simp [treeSg]
theorem treeAb_len (sc : List Int) : (treeAb sc 6).length = 7 := by simp [treeAb]
theorem due_word {hand : Int} (hh : hand = 0 ∨ hand = 1 ∨ hand = 2) {y : PySem.Str} (hs : IsSign y) : Word (cpl (due hand y)) := by
  have h : ∀ l : List Nat, (l.all fun c => c != 92 && c != 34 && c != 40 && c != 41) = true → Word l := by
    intro l hl c hc
    have := List.all_eq_true.mp hl c hc
    simp only [Bool.and_eq_true, bne_iff_ne] at this
    exact ⟨this.1.1.1, this.1.1.2, this.1.2, this.2⟩
  refine h _ ?_
  rcases hh with rfl | rfl | rfl <;> rcases hs with rfl | rfl | rfl | rfl <;> decide
/-- the four names, as texts stand -/
noncomputable def kindsF (hand : Int) : List PySem.Str :=
  if hand = 0 then [Str.ofString "&amp;", Str.ofString "&gt;", Str.ofString "&lt;", Str.ofString "&quot;"]
  else if hand = 1 then [Str.ofString "&amp;", Str.ofString "&gt;", Str.ofString "&quot;", Str.ofString "<"]
  else [Str.ofString "&amp;", Str.ofString "&lt;", Str.ofString "&quot;", Str.ofString ">"]
noncomputable def kapF (hand : Int) (i : Nat) : List Nat := cpl ((kindsF hand).getD i (Str.ofString ""))
theorem kinds_len {hand : Int} (hh : hand = 0 ∨ hand = 1 ∨ hand = 2) : (kindsF hand).length = 4 := by
  rcases hh with rfl | rfl | rfl <;> rfl
theorem kap_split {hand : Int} (hh : hand = 0 ∨ hand = 1 ∨ hand = 2) : ∀ i j, i < j → j < 4 → splitB (kapF hand i) (kapF hand j) = true := by
  have h : ∀ i : Fin 4, ∀ j : Fin 4, i.1 < j.1 → splitB (kapF hand i.1) (kapF hand j.1) = true := by
    rcases hh with rfl | rfl | rfl <;> decide
  intro i j hij hj
  exact h ⟨i, by (first | exact om505 hij hj | omega)⟩ ⟨j, hj⟩ hij
theorem kap_ne {hand : Int} (hh : hand = 0 ∨ hand = 1 ∨ hand = 2) : ∀ i, i < 4 → kapF hand i ≠ [] := by
  have h : ∀ i : Fin 4, kapF hand i.1 ≠ [] := by
    rcases hh with rfl | rfl | rfl <;> decide
  intro i hi
  exact h ⟨i, hi⟩
noncomputable def kindAt (hand : Int) (y : PySem.Str) : Nat := if (kindsF hand)[0]? = some y then 0 else if (kindsF hand)[1]? = some y then 1 else if (kindsF hand)[2]? = some y then 2 else 3
theorem kind_is {hand : Int} (hh : hand = 0 ∨ hand = 1 ∨ hand = 2) {y : PySem.Str} (hs : IsSign y) : kindAt hand (due hand y) < 4 ∧ (kindsF hand)[kindAt hand (due hand y)]? = some (due hand y) := by
  rcases hh with rfl | rfl | rfl <;> rcases hs with rfl | rfl | rfl | rfl <;> decide
theorem kind_of {hand : Int} {y : PySem.Str} {i : Nat} (h : (kindsF hand)[i]? = some y) : cpl y = kapF hand i := by
  unfold kapF
  rw [List.getD_eq_getElem?_getD, h]; rfl
theorem hidden_piece : ∀ i : Nat, ∃ k, Piece (cpl (hiddenL.getD i (Str.ofString ""))) k ∧ k.length ≤ 4
  | 0 => ⟨[92, 92], ⟨.inr (.inl ⟨by decide, rfl⟩)⟩, by decide⟩
  | 1 => ⟨[], ⟨.inr (.inr (.inl ⟨by decide, rfl⟩))⟩, by decide⟩
  | 2 => ⟨[92, 34, 92, 40], ⟨.inr (.inr (.inr (.inl ⟨by decide, rfl⟩)))⟩, by decide⟩
  | 3 => ⟨[], ⟨.inr (.inr (.inr (.inr ⟨by decide, rfl⟩)))⟩, by decide⟩
  | i + 4 => by
    refine ⟨[], ⟨.inl ⟨?_, rfl⟩⟩, by decide⟩
    rw [List.getD_eq_getElem?_getD, List.getElem?_eq_none (by show 4 ≤ i + 4; (first | exact om506 | omega))]
    decide
theorem kinds_pick : ∀ h : Fin 3, ∀ a b c d : Fin 4, (a ≠ b ∧ a ≠ c ∧ a ≠ d ∧ b ≠ c ∧ b ≠ d ∧ c ≠ d) → sortedS [(kindsF (h.1 : Int)).getD a.1 (Str.ofString ""), (kindsF (h.1 : Int)).getD b.1 (Str.ofString ""), (kindsF (h.1 : Int)).getD c.1 (Str.ofString ""), (kindsF (h.1 : Int)).getD d.1 (Str.ofString "")] = true → a = 0 ∧ b = 1 ∧ c = 2 ∧ d = 3 := by decide +kernel
theorem kinds_sorted {hand : Int} (hh : hand = 0 ∨ hand = 1 ∨ hand = 2) {ss : List PySem.Str} (p : ss.Perm ((Str.ofString "&\"<>").cps.toList.map fun c => due hand ⟨#[c]⟩)) (hs : sortedS ss = true) : ss = kindsF hand := by
  have hp : ((Str.ofString "&\"<>").cps.toList.map fun c => due hand ⟨#[c]⟩).Perm (kindsF hand) := by
    rcases hh with rfl | rfl | rfl <;> decide +kernel
  have p2 := p.trans hp
  have hl : ss.length = 4 := by rw [p2.length_eq, kinds_len hh]
  obtain ⟨a, b, c, d, rfl⟩ : ∃ a b c d, ss = [a, b, c, d] := by
    match ss, hl with
    | [a, b, c, d], _ => exact ⟨a, b, c, d, rfl⟩
  have hnd : (kindsF hand).Nodup := by rcases hh with rfl | rfl | rfl <;> decide +kernel
  have hn : [a, b, c, d].Nodup := p2.nodup_iff.mpr hnd
  have idx : ∀ y ∈ [a, b, c, d], ∃ i : Fin 4, y = (kindsF hand).getD i.1 (Str.ofString "") := fun y hy => by
    obtain ⟨i, hi, rfl⟩ := List.getElem_of_mem (p2.mem_iff.mp hy)
    refine ⟨⟨i, by rw [← kinds_len hh]; exact hi⟩, ?_⟩
    rw [List.getD_eq_getElem?_getD, List.getElem?_eq_getElem hi]; rfl
  obtain ⟨i, ei⟩ := idx a (by simp)
  obtain ⟨j, ej⟩ := idx b (by simp)
  obtain ⟨k, ek⟩ := idx c (by simp)
  obtain ⟨l, el⟩ := idx d (by simp)
  simp only [List.nodup_cons, List.mem_cons, List.not_mem_nil, or_false, not_or, not_false_eq_true, List.nodup_nil, and_true] at hn
  have hne : i ≠ j ∧ i ≠ k ∧ i ≠ l ∧ j ≠ k ∧ j ≠ l ∧ k ≠ l := by
    refine ⟨?_, ?_, ?_, ?_, ?_, ?_⟩
    · rintro rfl; exact hn.1.1 (ei.trans ej.symm)
    · rintro rfl; exact hn.1.2.1 (ei.trans ek.symm)
    · rintro rfl; exact hn.1.2.2 (ei.trans el.symm)
    · rintro rfl; exact hn.2.1.1 (ej.trans ek.symm)
    · rintro rfl; exact hn.2.1.2 (ej.trans el.symm)
    · rintro rfl; exact hn.2.2 (ek.trans el.symm)
  rw [ei, ej, ek, el] at hs ⊢
  obtain ⟨h, eh⟩ : ∃ h : Fin 3, hand = (h.1 : Int) := by
    rcases hh with rfl | rfl | rfl
    · exact ⟨0, rfl⟩
    · exact ⟨1, rfl⟩
    · exact ⟨2, rfl⟩
  rw [eh] at hs
  obtain ⟨rfl, rfl, rfl, rfl⟩ := kinds_pick h i j k l hne hs
  rcases hh with rfl | rfl | rfl <;> rfl
end Mine
end

section
open PySem PySem.W PyProof.Rows PySem.Calls PySem.Spec
namespace Mine
theorem slice_over {x : PySem.Str} {n : Nat} (h : x.length ≤ n) : Txt.slice x none (some (n : Int)) = Txt.slice x none (some (x.length : Int)) := by
  have e : Builtin.Str.strSliceIndices none (some (n : Int)) 1 x.length = Builtin.Str.strSliceIndices none (some (x.length : Int)) 1 x.length := by
    unfold Builtin.Str.strSliceIndices
    simp only [show (1 : Int) > 0 by decide, if_true]
    congr 1
    rw [if_neg (by (first | exact om263 | omega)), if_neg (by (first | exact om263 | omega))]
    (first | exact om507 h | omega)
  unfold Txt.slice
  rw [e]
theorem cpl_upto {x : PySem.Str} {n : Nat} : cpl (Txt.slice x none (some (n : Int))) = (cpl x).take n := by
  have key : ∀ k : Nat, k ≤ x.length → cpl (Txt.slice x none (some (k : Int))) = (cpl x).take k := fun k hk => by
    have := eq_of_beq (slice_closes_toL (x := x) (j := (k : Int)) (by (first | exact om270 | omega)) (by (first | exact om296 hk | omega)))
    rw [this]
    simp
  rcases Nat.lt_or_ge x.length n with h | h
  · rw [slice_over (Nat.le_of_lt h), key _ (Nat.le_refl _), List.take_of_length_le (by rw [← cpl_len]; (first | exact om508 | omega)), List.take_of_length_le (by rw [← cpl_len]; (first | exact om325 h | omega))]
  · exact key n h
/-- a shape's facts, of any lists -/
structure Sh (q par ids : List Nat) (ts : List (Option Nat)) : Prop where
  alen : par.length = 7
  ilen : ids.length = 7
  perm : ids.Perm (List.range 7)
  id0 : ids.getD 0 9 = 0
  a0 : par.getD 0 9 = 0
  par' : ∀ k, 1 ≤ k → k < 7 → 1 ≤ par.getD k 0 ∧ par.getD k 0 ≤ k ∧ q.getD (ids.getD k 0 - 1) 9 = ids.getD (par.getD k 0 - 1) 0 ∧ ids.getD k 0 ≠ 0
  deep : ∀ c d, 1 ≤ c → c < 7 → 1 ≤ d → d < 7 → depthOf par 7 (par.getD c 0 - 1) = depthOf par 7 (par.getD d 0 - 1) → par.getD c 0 < par.getD d 0 → c < d
  again : (toksN (par.tail.map (· - 1)) 7 0).map (fun o => o.map fun k => ids.getD k 0) = ts
  lasts : (((List.range 7).filter fun k => k != 0 && lastB par k).map fun k => par.getD k 0 - 1).Perm ((List.range 7).filter (innerB par))
theorem sh_of {q : List Nat} (S : ShapeIs q) : ∃ par ids ts, toksN q 7 0 = ts ∧ (machOf ts).par = par ∧ (machOf ts).ids = ids ∧ ts.length = 14 ∧ stacksOk ts 0 = true ∧ Sh q par ids ts :=
  ⟨_, _, _, rfl, rfl, rfl, S.tlen, S.stacks, ⟨S.alen, S.ilen, S.perm, S.id0, S.a0, S.par, S.deep, S.again, S.lasts⟩⟩
theorem getD_eq {α : Type} {l : List α} {i : Nat} (h : i < l.length) (d d' : α) : l.getD i d = l.getD i d' := by
  rw [List.getD_eq_getElem?_getD, List.getD_eq_getElem?_getD, List.getElem?_eq_getElem h]; rfl
theorem getD_map {α β : Type} {l : List α} {f : α → β} {i : Nat} (h : i < l.length) (d : β) (d' : α) : (l.map f).getD i d = f (l.getD i d') := by
  rw [List.getD_eq_getElem?_getD, List.getD_eq_getElem?_getD, List.getElem?_map, List.getElem?_eq_getElem h]; rfl
theorem getD_some {α : Type} {l : List α} {i : Nat} (h : i < l.length) (d : α) : l[i]? = some (l.getD i d) := by
  rw [List.getD_eq_getElem?_getD, List.getElem?_eq_getElem h]; rfl
section
variable {q par ids : List Nat} {ts : List (Option Nat)} (S : Sh q par ids ts)
include S
theorem Sh.par0 : par.getD 0 0 = 0 := by rw [getD_eq (by rw [S.alen]; decide) 0 9]; exact S.a0
theorem Sh.depth_fuel : ∀ f f' k, k < f → k < f' → k < 7 → depthOf par f k = depthOf par f' k
  | 0, _, k, h, _, _ => by (first | exact om509 h | omega)
  | _ + 1, 0, k, _, h, _ => by (first | exact om509 h | omega)
  | f + 1, f' + 1, k, h, h', h7 => by
    unfold depthOf
    rcases Nat.eq_zero_or_pos k with rfl | h0
    · rw [S.par0]
    · have := S.par' k h0 h7
      cases e : par.getD k 0 with
      | zero => rfl
      | succ p =>
        rw [e] at this
        show depthOf par f p + 1 = depthOf par f' p + 1
        rw [Sh.depth_fuel f f' p (by (first | exact om510 h this e | omega)) (by (first | exact om510 h' this e | omega)) (by (first | exact om511 h7 h0 this e | omega))]
theorem Sh.dS {k : Nat} (h1 : 1 ≤ k) (h7 : k < 7) : depthOf par 7 k = depthOf par 7 (par.getD k 0 - 1) + 1 := by
  have := S.par' k h1 h7
  rw [S.depth_fuel 7 (k + 1) k (by (first | exact om374 h7 | omega)) (by (first | exact om406 | omega)) h7]
  unfold depthOf
  cases e : par.getD k 0 with
  | zero => rw [e] at this; (first | exact om512 this | omega)
  | succ p =>
    rw [e] at this
    show depthOf par k p + 1 = depthOf par 7 p + 1
    rw [S.depth_fuel k 7 p (by (first | exact om513 this e | omega)) (by (first | exact om514 h1 h7 this e | omega)) (by (first | exact om514 h1 h7 this e | omega))]
theorem Sh.d0 : depthOf par 7 0 = 0 := by
  unfold depthOf
  rw [S.par0]
theorem Sh.id7 {k : Nat} (h : k < 7) : ids.getD k 0 < 7 := by
  have hm : ids.getD k 0 ∈ ids := List.mem_of_getElem? (getD_some (by rw [S.ilen]; exact h) 0)
  exact List.mem_range.mp (S.perm.mem_iff.mp hm)
theorem Sh.id_zero : ids.getD 0 0 = 0 := by rw [getD_eq (by rw [S.ilen]; decide) 0 9]; exact S.id0
theorem Sh.id_inj {j k : Nat} (hj : j < 7) (hk : k < 7) (h : ids.getD j 0 = ids.getD k 0) : j = k := by
  have hn : ids.Nodup := S.perm.nodup_iff.mpr List.nodup_range
  have hj' : j < ids.length := by rw [S.ilen]; exact hj
  have hk' : k < ids.length := by rw [S.ilen]; exact hk
  rw [List.getD_eq_getElem?_getD, List.getD_eq_getElem?_getD, List.getElem?_eq_getElem hj', List.getElem?_eq_getElem hk'] at h
  have h : ids[j] = ids[k] := h
  rcases Nat.lt_trichotomy j k with g | g | g
  · exact absurd h (List.pairwise_iff_getElem.mp hn j k hj' hk' g)
  · exact g
  · exact absurd h.symm (List.pairwise_iff_getElem.mp hn k j hk' hj' g)
theorem Sh.id_surj {n : Nat} (hn : n < 7) : ∃ k, k < 7 ∧ ids.getD k 0 = n := by
  obtain ⟨k, hk, e⟩ := List.getElem_of_mem (S.perm.mem_iff.mpr (List.mem_range.mpr hn))
  refine ⟨k, by rw [← S.ilen]; exact hk, ?_⟩
  rw [List.getD_eq_getElem?_getD, List.getElem?_eq_getElem hk]; exact e
theorem Sh.ids_eq : ids = (List.range 7).map fun k => ids.getD k 0 := by
  refine List.ext_getElem? fun i => ?_
  rcases Nat.lt_or_ge i 7 with h | h
  · rw [List.getElem?_map, List.getElem?_range h, getD_some (by rw [S.ilen]; exact h) 0]; rfl
  · rw [List.getElem?_eq_none (by rw [S.ilen]; exact h), List.getElem?_eq_none (by simpa using h)]
theorem Sh.inn_iff {u : Nat} (hu : u < 7) : innerB par u = true ↔ ∃ v, 1 ≤ v ∧ v < 7 ∧ par.getD v 0 - 1 = u := by
  unfold innerB
  rw [List.any_eq_true]
  constructor
  · rintro ⟨v, hv, e⟩
    have hv := List.mem_range.mp hv
    have e : par.getD v 0 = u + 1 := by simpa using e
    refine ⟨v, ?_, hv, by (first | exact om515 hu e | omega)⟩
    rcases Nat.eq_zero_or_pos v with rfl | h0
    · rw [S.par0] at e; (first | exact om516 hu e | omega)
    · exact h0
  · rintro ⟨v, h1, h7, e⟩
    have := S.par' v h1 h7
    refine ⟨v, List.mem_range.mpr h7, ?_⟩
    have : par.getD v 0 = u + 1 := by (first | exact om517 e this | omega)
    simpa using this
theorem Sh.last_iff {v : Nat} (h1 : 1 ≤ v) (h7 : v < 7) : lastB par v = true ↔ ∀ w, v < w → w < 7 → par.getD w 0 - 1 ≠ par.getD v 0 - 1 := by
  unfold lastB
  rw [List.all_eq_true]
  have pv := S.par' v h1 h7
  constructor
  · intro h w hw w7 e
    have := h w (List.mem_range.mpr w7)
    have pw := S.par' w (by (first | exact om518 pv hw w7 | omega)) w7
    have e2 : par.getD w 0 = par.getD v 0 := by (first | exact om519 pv e pw | omega)
    rw [e2] at this
    simp [hw] at this
  · intro h w hw
    have w7 := List.mem_range.mp hw
    rcases Nat.lt_or_ge v w with g | g
    · have := h w g w7
      have e2 : ¬ par.getD w 0 = par.getD v 0 := fun e => this (by rw [e])
      have e3 : (par.getD w 0 == par.getD v 0) = false := by simpa using e2
      rw [e3]; simp
    · have : decide (v < w) = false := by simp; (first | exact om520 g | omega)
      rw [this]; simp
end
end Mine
end

section
open PySem PySem.W PyProof.Rows PySem.Calls PySem.Spec
namespace Mine
theorem wayL_succ (ab : List Int) (wd : List PySem.Str) (n : Nat) : wayL ab wd (n + 1) = wayL ab wd n ++ [wayNext ab wd (wayL ab wd n) n] := rfl
theorem wayL_get (ab : List Int) (wd : List PySem.Str) : ∀ n i, i < n → (wayL ab wd n).getD i (Str.ofString "") = wayNext ab wd (wayL ab wd i) i
  | 0, i, h => by (first | exact om281 h | omega)
  | n + 1, i, h => by
    rw [wayL_succ]
    rcases Nat.lt_or_ge i n with g | g
    · rw [← wayL_get ab wd n i g, List.getD_eq_getElem?_getD, List.getElem?_append_left (by rw [wayL_length]; exact g), ← List.getD_eq_getElem?_getD]
    · have e : i = n := by (first | exact om46 h g | omega)
      subst e
      rw [List.getD_eq_getElem?_getD, List.getElem?_append_right (by rw [wayL_length]; exact Nat.le_refl _), wayL_length, Nat.sub_self]
      rfl
structure Wdr (hand : Int) (wdr : Nat → PySem.Str) : Prop where
  hh : hand = 0 ∨ hand = 1 ∨ hand = 2
  w : ∀ n, n < 7 → ∃ y, IsSign y ∧ wdr n = due hand y
noncomputable def pAb (par : List Nat) : List Int := par.map fun k : Nat => (k : Int) - 1
noncomputable def pP (par : List Nat) (k : Nat) : Nat := par.getD k 0 - 1
noncomputable def pW (ids : List Nat) (wdr : Nat → PySem.Str) (u : Nat) : PySem.Str := wdr (ids.getD u 0)
noncomputable def pK (hand : Int) (ids : List Nat) (wdr : Nat → PySem.Str) (u : Nat) : Nat := kindAt hand (pW ids wdr u)
noncomputable def pF (par ids : List Nat) (wdr : Nat → PySem.Str) : Int → PySem.Str := fun i => (wayL (pAb par) (ids.map wdr) 7).getD i.toNat (Str.ofString "")
noncomputable def pL (par ids : List Nat) (wdr : Nat → PySem.Str) (k : Nat) : List Nat := cpl (pF par ids wdr (k : Int))
section
variable {hand : Int} {wdr : Nat → PySem.Str} {q par ids : List Nat} {ts : List (Option Nat)} (S : Sh q par ids ts) (D : Wdr hand wdr)
include S D
theorem pW_kind {u : Nat} (hu : u < 7) : pK hand ids wdr u < 4 ∧ (kindsF hand)[pK hand ids wdr u]? = some (pW ids wdr u) := by
  obtain ⟨y, hy, e⟩ := D.w _ (S.id7 hu)
  have := kind_is D.hh hy
  unfold pK pW
  rw [e]
  exact this
theorem pAb_get {k : Nat} (hk : k < 7) : (pAb par).getD k 0 = (par.getD k 0 : Int) - 1 := getD_map (by rw [S.alen]; exact hk) 0 0
theorem pWd_get {k : Nat} (hk : k < 7) : (ids.map wdr).getD k (Str.ofString "") = pW ids wdr k := getD_map (by rw [S.ilen]; exact hk) _ 0
theorem pF_zero : pF par ids wdr 0 = Str.ofString "" := by
  unfold pF
  rw [show (0 : Int).toNat = 0 from rfl, wayL_get _ _ 7 0 (by decide)]
  unfold wayNext
  rw [pAb_get S D (by decide), S.par0, if_pos (by decide)]
theorem pF_succ {k : Nat} (h1 : 1 ≤ k) (h7 : k < 7) : pF par ids wdr (k : Int) = pW ids wdr (pP par k) ++ pF par ids wdr (pP par k : Int) := by
  have hp := S.par' k h1 h7
  have hP : pP par k < k := by unfold pP; (first | exact om521 hp | omega)
  have e : ((par.getD k 0 : Nat) : Int) - 1 = ((pP par k : Nat) : Int) := by unfold pP; (first | exact om522 hp | omega)
  unfold pF
  rw [Int.toNat_natCast, Int.toNat_natCast, wayL_get _ _ 7 k h7]
  rw [wayL_get _ _ 7 (pP par k) (by (first | exact om523 h1 h7 hp e | omega)), ← wayL_get _ _ k (pP par k) hP]
  unfold wayNext
  rw [pAb_get S D h7, e, if_neg (by (first | exact om263 | omega)), Int.toNat_natCast, pWd_get S D (by (first | exact om523 h1 h7 hp e | omega))]
theorem tr_of : Tr (pP par) (pK hand ids wdr) (depthOf par 7) (kapF hand) (pL par ids wdr) where
  hP := fun k h1 h7 => by have := S.par' k h1 h7; unfold pP; (first | exact om521 this | omega)
  hK := fun k h => (pW_kind S D h).1
  split := kap_split D.hh
  ne := kap_ne D.hh
  L0 := by
    show cpl (pF par ids wdr 0) = []
    rw [pF_zero S D, cpl_nil]
  LS := fun k h1 h7 => by
    have hp := S.par' k h1 h7
    show cpl (pF par ids wdr (k : Int)) = _
    rw [pF_succ S D h1 h7, cpl_app, kind_of (pW_kind S D (show pP par k < 7 by unfold pP; (first | exact om524 h1 h7 hp | omega))).2]
    rfl
  d0 := S.d0
  dS := fun k h1 h7 => S.dS h1 h7
  deep := fun c d c1 c7 d1 d7 e h => S.deep c d c1 c7 d1 d7 e (by
    have := S.par' c c1 c7
    have := S.par' d d1 d7
    unfold pP at h
    (first | exact om525 h (by assumption) this | omega))
noncomputable def pRow (par ids : List Nat) (wdr : Nat → PySem.Str) (j : Nat) : Nat := ((rowL (pF par ids wdr) 7).getD j 0).toNat
omit S D in
theorem pF_cpl : ∀ k : Nat, k < 7 → cpl (pF par ids wdr (k : Int)) = pL par ids wdr k := fun _ _ => rfl
theorem row_at {j : Nat} (hj : j < 7) : (rowL (pF par ids wdr) 7)[j]? = some ((pRow par ids wdr j : Nat) : Int) ∧ pRow par ids wdr j < 7 ∧ posN (pL par ids wdr) (pRow par ids wdr j) = j := by
  obtain ⟨k, h1, h2, h3⟩ := row_pos (L := pL par ids wdr) pF_cpl (fun k h1 h7 => (tr_of S D).pos_lt h1 h7) hj
  have e : pRow par ids wdr j = k := by
    unfold pRow
    rw [List.getD_eq_getElem?_getD, h1]; rfl
  rw [e]
  exact ⟨h1, h2, h3⟩
theorem rw_of : Rw (pP par) (pK hand ids wdr) (depthOf par 7) (kapF hand) (pL par ids wdr) (pRow par ids wdr) (innerB par) (lastB par) where
  T := tr_of S D
  r7 := fun j hj => (row_at S D hj).2.1
  rp := fun j hj => (row_at S D hj).2.2
  inn_iff := fun u hu => S.inn_iff hu
  last_iff := fun v h1 h7 => S.last_iff h1 h7
omit D in
theorem in_row {u : Nat} (hu : u < 7) : (pAb par).any (· == (u : Int)) = innerB par u := by
  rw [Bool.eq_iff_iff, S.inn_iff hu, List.any_eq_true]
  constructor
  · rintro ⟨x, hx, e⟩
    obtain ⟨k, hk, rfl⟩ := List.mem_map.mp hx
    have e : (k : Int) - 1 = (u : Int) := by simpa using e
    obtain ⟨v, hv, ev⟩ := List.getElem_of_mem hk
    have v7 : v < 7 := by rw [← S.alen]; exact hv
    have eg : par.getD v 0 = k := by rw [List.getD_eq_getElem?_getD, List.getElem?_eq_getElem hv]; exact ev
    refine ⟨v, ?_, v7, by (first | exact om526 hu e hv ev eg | omega)⟩
    rcases Nat.eq_zero_or_pos v with rfl | h0
    · rw [S.par0] at eg; (first | exact om527 hu e hv ev eg | omega)
    · exact h0
  · rintro ⟨v, h1, h7, e⟩
    have := S.par' v h1 h7
    refine ⟨(u : Int), List.mem_map.mpr ⟨par.getD v 0, List.mem_of_getElem? (getD_some (by rw [S.alen]; exact h7) 0), by (first | exact om528 e this | omega)⟩, by simp⟩
omit D in
theorem last_row {v : Nat} (h7 : v < 7) : (!((pAb par).drop (v + 1)).any (· == (pAb par).getD v 0)) = lastB par v := by
  have hlen : (pAb par).length = 7 := by rw [pAb, List.length_map, S.alen]
  have get : ∀ w, w < 7 → (pAb par)[w]? = some ((par.getD w 0 : Int) - 1) := fun w hw => by
    unfold pAb
    rw [List.getElem?_map, getD_some (by rw [S.alen]; exact hw) 0]; rfl
  have e0 : (pAb par).getD v 0 = (par.getD v 0 : Int) - 1 := by rw [List.getD_eq_getElem?_getD, get v h7]; rfl
  rw [e0]
  unfold lastB
  rw [Bool.eq_iff_iff, List.all_eq_true, Bool.not_eq_true', List.any_eq_false]
  constructor
  · intro h w hw
    have w7 := List.mem_range.mp hw
    rcases Nat.lt_or_ge v w with g | g
    · have hm : ((par.getD w 0 : Int) - 1) ∈ (pAb par).drop (v + 1) := by
        refine List.mem_of_getElem? (i := w - (v + 1)) ?_
        rw [List.getElem?_drop, show v + 1 + (w - (v + 1)) = w by (first | exact om529 g | omega)]
        exact get w w7
      have := h _ hm
      have e2 : ¬ par.getD w 0 = par.getD v 0 := fun e => this (by rw [e]; simp)
      have e3 : (par.getD w 0 == par.getD v 0) = false := by simpa using e2
      rw [e3]; simp
    · have : decide (v < w) = false := by simp; (first | exact om520 g | omega)
      rw [this]; simp
  · intro h x hx
    obtain ⟨i, hi, e⟩ := List.getElem_of_mem hx
    rw [List.length_drop, hlen] at hi
    have hi7 : v + 1 + i < 7 := by (first | exact om530 h7 (by assumption) hi | omega)
    have ex : x = (par.getD (v + 1 + i) 0 : Int) - 1 := by
      have h2 := List.getElem?_eq_getElem (l := (pAb par).drop (v + 1)) (i := i) (by rw [List.length_drop, hlen]; (first | exact om531 hi | omega))
      rw [e, List.getElem?_drop, get _ hi7] at h2
      exact (Option.some.inj h2).symm
    have := h (v + 1 + i) (List.mem_range.mpr hi7)
    have hlt : decide (v < v + 1 + i) = true := by simp; (first | exact om532 (by assumption) | omega)
    rw [hlt, Bool.true_and] at this
    have e3 : ¬ par.getD (v + 1 + i) 0 = par.getD v 0 := by simpa using this
    rw [ex]
    intro e4
    have : (par.getD (v + 1 + i) 0 : Int) - 1 = (par.getD v 0 : Int) - 1 := by simpa using e4
    (first | exact om533 (by assumption) e3 this | omega)
theorem tb_of : Tb (pP par) (pK hand ids wdr) (depthOf par 7) (kapF hand) (pL par ids wdr) (pRow par ids wdr) (innerB par) (lastB par) (kindsF hand) (pW ids wdr) ((rowL (pF par ids wdr) 7).map (tabRow (pAb par) (ids.map wdr))) where
  R := rw_of S D
  k4 := kinds_len D.hh
  kc := fun i y h => kind_of h
  kw := fun u hu => (pW_kind S D hu).2
  t7 := by rw [List.length_map, rowL_length]
  tr := fun k hk => by
    obtain ⟨h1, h2, h3⟩ := row_at S D hk
    rw [List.getElem?_map, h1]
    show some (tabRow _ _ _) = _
    unfold tabRow
    rw [Int.toNat_natCast, pWd_get S D h2, in_row S h2, last_row S h2]
end
end Mine
end

section
open PySem PySem.W PyProof.Rows PySem.Calls PySem.Spec
namespace Mine
theorem count_shift (g : Nat → Bool) {a b : Nat} (h : a ≤ b) (h7 : b ≤ 7) : (List.range (b - a)).countP (fun i => g (a + i)) = (List.range 7).countP fun k => decide (a ≤ k) && decide (k < b) && g k := by
  have e : (List.range 7) = List.range a ++ (List.range (b - a)).map (a + ·) ++ (List.range (7 - b)).map (b + ·) := by
    have e1 := List.range_add (n := a) (m := b - a)
    have e2 := List.range_add (n := b) (m := 7 - b)
    rw [show a + (b - a) = b by (first | exact om534 h | omega)] at e1
    rw [show b + (7 - b) = 7 by (first | exact om535 h7 | omega)] at e2
    rw [e2, e1]
  rw [e, List.countP_append, List.countP_append]
  have z1 : (List.range a).countP (fun k => decide (a ≤ k) && decide (k < b) && g k) = 0 := List.countP_eq_zero.mpr fun k hk => by
    have := List.mem_range.mp hk
    have : decide (a ≤ k) = false := by simp; (first | exact om230 this | omega)
    rw [this]; simp
  have z2 : ((List.range (7 - b)).map (b + ·)).countP (fun k => decide (a ≤ k) && decide (k < b) && g k) = 0 := List.countP_eq_zero.mpr fun k hk => by
    obtain ⟨i, _, rfl⟩ := List.mem_map.mp hk
    have : decide (b + i < b) = false := by simp
    rw [this]; simp
  rw [z1, z2, List.countP_map, Nat.zero_add, Nat.add_zero]
  refine List.countP_congr fun i hi => ?_
  have := List.mem_range.mp hi
  have d1 : decide (a ≤ a + i) = true := by simp
  have d2 : decide (a + i < b) = true := by simp; (first | exact om291 h this | omega)
  simp only [Function.comp, d1, d2, Bool.true_and]
theorem rangeKs_count (p : Int → Bool) (a : Int) (n : Nat) : ((rangeKs a n).filter p).length = (List.range n).countP fun i : Nat => p (a + (i : Int)) := by
  rw [← List.countP_eq_length_filter]
  unfold rangeKs
  rw [List.countP_map]
  rfl
section
variable {P K dp : Nat → Nat} {κ L : Nat → List Nat} {r : Nat → Nat} {inn last : Nat → Bool} {ks : List PySem.Str} {wdp : Nat → PySem.Str} {tb : List TRow} (X : Tb P K dp κ L r inn last ks wdp tb)
include X
omit X in
theorem ps_before (K r : Nat → Nat) (inn : Nat → Bool) (c Y : Nat) {j : Nat} (hj : j < (psN K r inn c).length) : (psN K r inn c)[j] < Y ↔ j < ((psN K r inn c).filter fun p => decide (p < Y)).length := by
  have hdc : (psN K r inn c).Pairwise fun a b => (fun p => decide (p < Y)) b = true → (fun p => decide (p < Y)) a = true := (psN_sorted K r inn c).imp fun {a b} hab hb => by
    simp only [decide_eq_true_eq] at hb ⊢
    (first | exact om332 hab hb | omega)
  have := dc_iff (D := fun p => decide (p < Y)) hdc hj
  rwa [decide_eq_true_eq] at this
omit X in
theorem castL_getD {l : List Nat} {j : Nat} (hj : j < l.length) : (castL l).getD j 0 = ((l[j] : Nat) : Int) := by
  rw [List.getD_eq_getElem?_getD, castL_at (List.getElem?_eq_getElem hj)]; rfl
theorem Tb.loop (hl : (((List.range 7).filter fun k => k != 0 && last k).map P).Perm ((List.range 7).filter inn)) {i ui : Nat} (hi : i < 4) (hui : ui < 4) {ws : List PySem.Str} {row : List Int} (hrow : row.length = 7) (hr : ∀ j, j < 7 → row.getD j 0 = (r j : Int))
    (hws : ∀ u, u < 7 → cpl (ws.getD u (Str.ofString "")) = L u) {ab : List Int} {wd : List PySem.Str}
    (hsuch : ((rangeKs 1 6).filter (suchAt ab wd ks i ui)).length = (List.range 7).countP fun u => decide (u ≠ 0) && inn u && decide (K u = i) && decide (K (P u) = ui)) :
    LoopAt ks ws wd row ab tb (fun c => castL (psN K r inn c)) (fun c => castL (bsN P K r L inn c)) ui i (cutN P K L (8 * i + cutN P K L (8 * ui + 1) + 1)) (cutN P K L (8 * i + cutN P K L (8 * (ui + 1) + 1) + 1))
      ((psN K r inn i).filter fun p => decide (p < cutN P K L (8 * ui + 1))).length ((psN K r inn i).filter fun p => decide (p < cutN P K L (8 * (ui + 1) + 1))).length := by
  have B7 := cut_le7 P K L (8 * ui + 1)
  have E7 := cut_le7 P K L (8 * (ui + 1) + 1)
  have BE : cutN P K L (8 * ui + 1) ≤ cutN P K L (8 * (ui + 1) + 1) := cut_mono P K L (by (first | exact om536 | omega))
  have ck : ∀ c, c < 4 → cpl (ks.getD c (Str.ofString "")) = κ c := fun c hc => X.kc c _ (getD_some (by rw [X.k4]; exact hc) _)
  have cw : cpl (ks.getD i (Str.ofString "") ++ ks.getD ui (Str.ofString "")) = κ i ++ κ ui := by rw [cpl_app, ck i hi, ck ui hui]
  have fnd : ∀ j, j < row.length → (foundF ws (ks.getD i (Str.ofString "") ++ ks.getD ui (Str.ofString "")) (row.getD j 0)).cps.toList = (L (r j)).take (κ i ++ κ ui).length := fun j hj => by
    rw [hrow] at hj
    show cpl (Txt.slice _ _ _) = _
    rw [cpl_upto, hr j hj, Int.toNat_natCast, hws _ (X.R.r7 j hj), cpl_len, cw]
  have hcut : ∀ j, j < row.length → ∀ Y, j < cutN P K L Y ↔ kkN P K L (r j) < Y := fun j hj Y => by
    rw [hrow] at hj
    have := X.R.T.cut_iff (X := Y) (X.R.r7 j hj)
    rwa [X.R.rp j hj] at this
  have bl := bsN_len P K r L inn i
  have pl := psN_len K r inn i
  refine ⟨cut_mono P K L (by (first | exact om537 BE | omega)), cut_le7 .., fun j hj => ?_, fun j hj => ?_, by simpa [castL] using pl, by simp only [castL, List.length_map]; (first | exact om538 bl pl | omega), by simp only [castL, List.length_map]; exact List.length_filter_le _ _, fun j hj => ?_, ?_, by simp only [castL, List.length_map]; exact List.length_filter_le _ _, fun j hj => ?_, ?_, ?_⟩
  · rw [fnd j hj, show (ks.getD i (Str.ofString "") ++ ks.getD ui (Str.ofString "")).cps.toList = κ i ++ κ ui from cw, decide_eq_decide, hcut j hj]
    rw [hrow] at hj
    exact (X.R.cmp2 hi hui (X.R.r7 j hj)).1
  · rw [fnd j hj, show (ks.getD i (Str.ofString "") ++ ks.getD ui (Str.ofString "")).cps.toList = κ i ++ κ ui from cw, decide_eq_decide]
    have h1 := hcut j hj (8 * i + cutN P K L (8 * (ui + 1) + 1) + 1)
    rw [hrow] at hj
    have h2 := (X.R.cmp2 hi hui (X.R.r7 j hj)).2
    rw [h2, ← h1]
    (first | exact om539 | omega)
  · have hj' : j < (psN K r inn i).length := by simpa [castL] using hj
    rw [castL_getD hj', List.getD_eq_getElem?_getD, castL_at (X.R.first ui)]
    have := ps_before K r inn i (cutN P K L (8 * ui + 1)) hj'
    show ((_ : Nat) : Int) < ((_ : Nat) : Int) ↔ _
    rw [← this]
    (first | exact om540 hj' | omega)
  · exact castL_at (X.R.bs_at (by (first | exact om541 B7 | omega)))
  · have hj' : j < (psN K r inn i).length := by simpa [castL] using hj
    have e : (castL (bsN P K r L inn ui)).getLastD 0 = ((cutN P K L (8 * (ui + 1) + 1) : Nat) : Int) := by
      unfold castL bsN
      rw [List.map_append]
      simp
    rw [castL_getD hj', e]
    have := ps_before K r inn i (cutN P K L (8 * (ui + 1) + 1)) hj'
    (first | exact om542 hj' e this | omega)
  · exact castL_at (X.R.bs_at (by (first | exact om541 E7 | omega)))
  · rw [hsuch, ← X.R.count_last hl, rangeKs_count]
    have c7 := cut_le7 P K L (8 * i + cutN P K L (8 * (ui + 1) + 1) + 1)
    have cm : cutN P K L (8 * i + cutN P K L (8 * ui + 1) + 1) ≤ cutN P K L (8 * i + cutN P K L (8 * (ui + 1) + 1) + 1) := cut_mono P K L (by (first | exact om537 BE | omega))
    rw [← count_shift (fun k => last (r k)) cm c7]
    refine List.countP_congr fun j hj => ?_
    have hj := List.mem_range.mp hj
    unfold lastAt
    rw [show ((cutN P K L (8 * i + cutN P K L (8 * ui + 1) + 1) : Nat) : Int) + (j : Int) = ((cutN P K L (8 * i + cutN P K L (8 * ui + 1) + 1) + j : Nat) : Int) by (first | exact om38 | omega), Int.toNat_natCast, X.tr _ (by (first | exact om543 c7 cm hj | omega))]
end
end Mine
end

section
open PySem PySem.W PyProof.Rows PySem.Calls PySem.Spec
namespace Mine
section
variable {hand : Int} {wdr : Nat → PySem.Str} {q par ids : List Nat} {ts : List (Option Nat)} (S : Sh q par ids ts) (D : Wdr hand wdr)
include S D
theorem kind_iff {u i : Nat} (hu : u < 7) (hi : i < 4) : (pW ids wdr u == (kindsF hand).getD i (Str.ofString "")) = decide (pK hand ids wdr u = i) := by
  have h1 := (pW_kind S D hu).2
  have h2 : (kindsF hand)[i]? = some ((kindsF hand).getD i (Str.ofString "")) := getD_some (by rw [kinds_len D.hh]; exact hi) _
  rw [Bool.eq_iff_iff, decide_eq_true_eq, beq_iff_eq]
  constructor
  · intro e
    rw [e] at h1
    exact (tb_of S D).kinj h1 h2
  · intro e
    rw [e, h2] at h1
    exact (Option.some.inj h1).symm
omit D in
theorem count_ids (g : Nat → Bool) : (List.range 7).countP g = (List.range 7).countP fun u => g (ids.getD u 0) :=
  ((S.perm.countP_eq g).symm.trans (congrArg (List.countP g) S.ids_eq)).trans List.countP_map
theorem such_count {ab : List Int} {wd : List PySem.Str} (hab : ab = -1 :: q.map fun k : Nat => (k : Int)) (hq : q.length = 6) (hwd : ∀ n, n < 7 → wd.getD n (Str.ofString "") = wdr n) {i ui : Nat} (hi : i < 4) (hui : ui < 4) :
    ((rangeKs 1 6).filter (suchAt ab wd (kindsF hand) i ui)).length = (List.range 7).countP fun u => decide (u ≠ 0) && innerB par u && decide (pK hand ids wdr u = i) && decide (pK hand ids wdr (pP par u) = ui) := by
  have abg : ∀ n, 1 ≤ n → n < 7 → ab.getD n 0 = (q.getD (n - 1) 9 : Int) := fun n h1 h7 => by
    rw [hab]
    obtain ⟨m, rfl⟩ : ∃ m, n = m + 1 := ⟨n - 1, by (first | exact om544 h1 h7 | omega)⟩
    rw [List.getD_cons_succ, Nat.add_sub_cancel]
    exact getD_map (by (first | exact om545 hq h1 h7 | omega)) 0 9
  rw [rangeKs_count]
  have s1 : (List.range 6).countP (fun j : Nat => suchAt ab wd (kindsF hand) i ui (1 + (j : Int))) = (List.range (7 - 1)).countP (fun j => (fun n : Nat => suchAt ab wd (kindsF hand) i ui (n : Int)) (1 + j)) := by
    refine List.countP_congr fun j _ => ?_
    rw [show (1 : Int) + (j : Int) = ((1 + j : Nat) : Int) by (first | exact om24 | omega)]
  have s2 := count_shift (fun n : Nat => suchAt ab wd (kindsF hand) i ui (n : Int)) (a := 1) (b := 7) (by decide) (Nat.le_refl 7)
  rw [s1, s2, count_ids S]
  refine List.countP_congr fun u hu => ?_
  have u7 := List.mem_range.mp hu
  rcases Nat.eq_zero_or_pos u with rfl | h0
  · rw [S.id_zero]
    simp
  · have hp := S.par' u h0 u7
    have hid := S.id7 u7
    have hP : pP par u < 7 := by unfold pP; (first | exact om546 u7 h0 hp | omega)
    have hidP := S.id7 hP
    have eany : ab.any (· == ((ids.getD u 0 : Nat) : Int)) = innerB par u := by
      rw [Bool.eq_iff_iff, S.inn_iff u7, List.any_eq_true]
      constructor
      · rintro ⟨x, hx, e⟩
        have e : x = ((ids.getD u 0 : Nat) : Int) := by simpa using e
        rw [hab] at hx
        rcases List.mem_cons.mp hx with h | h
        · rw [h] at e; (first | exact om547 hid e | omega)
        · obtain ⟨m, hm, hmx⟩ := List.getElem_of_mem h
          rw [List.length_map, hq] at hm
          obtain ⟨v, v7, hv⟩ := S.id_surj (n := m + 1) (by (first | exact om548 (by assumption) hm | omega))
          have hv0 : 1 ≤ v := by
            rcases Nat.eq_zero_or_pos v with rfl | g
            · rw [S.id_zero] at hv; (first | exact om549 (by assumption) hm hv | omega)
            · exact g
          have pv := S.par' v hv0 v7
          refine ⟨v, hv0, v7, ?_⟩
          have e2 : q.getD (ids.getD v 0 - 1) 9 = ids.getD u 0 := by
            rw [hv, Nat.add_sub_cancel, List.getD_eq_getElem?_getD, List.getElem?_eq_getElem (by (first | exact om550 hq (by assumption) hm hv | omega))]
            rw [List.getElem_map] at hmx
            show q[m] = _
            omega
          rw [pv.2.2.1] at e2
          exact S.id_inj (by (first | exact om551 (by assumption) v7 hv0 pv | omega)) u7 e2
      · rintro ⟨v, hv0, v7, e⟩
        have pv := S.par' v hv0 v7
        refine ⟨((ids.getD u 0 : Nat) : Int), ?_, by simp⟩
        rw [hab]
        refine List.mem_cons_of_mem _ ?_
        have hidv := S.id7 v7
        refine List.mem_of_getElem? (i := ids.getD v 0 - 1) ?_
        rw [List.getElem?_map, getD_some (by (first | exact om552 hq hidv | omega)) 9, pv.2.2.1, e]; rfl
    unfold suchAt
    have h1 : 1 ≤ ids.getD u 0 := by (first | exact om553 hp hid | omega)
    have k1 : (wdr (ids.getD u 0) == (kindsF hand).getD i (Str.ofString "")) = decide (pK hand ids wdr u = i) := kind_iff S D u7 hi
    have k2 : (wdr (ids.getD (par.getD u 0 - 1) 0) == (kindsF hand).getD ui (Str.ofString "")) = decide (pK hand ids wdr (pP par u) = ui) := kind_iff S D hP hui
    have hid2 : ids.getD (par.getD u 0 - 1) 0 < 7 := hidP
    rw [eany, Int.toNat_natCast, hwd _ hid, abg _ h1 hid, hp.2.2.1, Int.toNat_natCast, hwd _ hid2, k1, k2]
    have d1 : decide (1 ≤ ids.getD u 0) = true := by simpa using h1
    have d2 : decide (ids.getD u 0 < 7) = true := by simpa using hid
    have d3 : decide (u ≠ 0) = true := by simp; (first | exact om345 u7 h0 | omega)
    rw [d1, d2, d3, Bool.true_and, Bool.true_and, Bool.true_and]
/-! the grown line -/
omit D in
theorem pq_get {k : Nat} (h1 : 1 ≤ k) (h7 : k < 7) : (par.tail.map (· - 1)).getD (k - 1) 9 = pP par k := by
  have hl : (par.tail).length = 6 := by rw [List.length_tail, S.alen]
  rw [getD_map (by (first | exact om554 h1 h7 hl | omega)) 9 0]
  unfold pP
  congr 1
  rw [List.getD_eq_getElem?_getD, List.getD_eq_getElem?_getD, List.getElem?_tail, show k - 1 + 1 = k by (first | exact om555 h1 h7 | omega)]
theorem row_zero : pRow par ids wdr 0 = 0 := by
  have R := rw_of S D
  have h0 := R.rp 0 (by decide)
  have hz : posN (pL par ids wdr) 0 = 0 := by
    unfold posN
    refine List.countP_eq_zero.mpr fun v hv h => ?_
    have v7 := List.mem_range.mp hv
    rcases Nat.eq_zero_or_pos v with rfl | g
    · rw [prec_irr] at h; cases h
    · rcases prec_iff.mp h with h | ⟨_, h⟩
      · exact nl_asymm h (R.T.pos_lt g v7)
      · (first | exact om556 v7 g h | omega)
  exact pos_inj (L := pL par ids wdr) (R.r7 0 (by decide)) (by decide) (h0.trans hz.symm)
omit D in
theorem txt_root : txtN (par.tail.map (· - 1)) (pW ids wdr) 0 = ts.flatMap (tokS (fun n => cpl (wdr n)) fun _ => []) := by
  rw [← S.again, List.flatMap_map]
  unfold txtN
  have e : (tokS (fun u => cpl (pW ids wdr u)) fun _ => []) = fun o : Option Nat => tokS (fun n => cpl (wdr n)) (fun _ => []) (o.map fun k => ids.getD k 0) := by
    funext o
    cases o <;> rfl
  rw [e]
theorem wdr_len {n : Nat} (hn : n < 7) : (wdr n).length ≤ 6 := by
  obtain ⟨y, hy, e⟩ := D.w n hn
  rw [e]
  exact due_len D.hh hy
theorem pW_len (n : Nat) : (cpl (pW ids wdr n)).length + ((fun _ : Nat => ([] : List Nat)) n).length ≤ 6 := by
  have h : ids.getD n 0 < 7 := by
    rcases Nat.lt_or_ge n 7 with h | h
    · exact S.id7 h
    · rw [List.getD_eq_getElem?_getD, List.getElem?_eq_none (by rw [S.ilen]; exact h)]; decide
  have := wdr_len S D h
  rw [← cpl_len]
  show (wdr (ids.getD n 0)).length + 0 ≤ 6
  (first | exact om557 this | omega)
theorem grown_len {k : Nat} (hk : k < 7) (hts : ts.length = 14) : (grownG (par.tail.map (· - 1)) (pW ids wdr) (pRow par ids wdr) k).length ≤ 500 := by
  rw [cpl_len, cpl_grownG]
  have h := toks_len (wd := fun u => cpl (pW ids wdr u)) (pc := fun _ => []) (k := 6) (pW_len S D) (toksN (par.tail.map (· - 1)) 7 (pRow par ids wdr k))
  have h7 := (row_at S D hk).2.1
  rcases Nat.eq_zero_or_pos (pRow par ids wdr k) with e | e
  · rw [e] at h ⊢
    have hl : (toksN (par.tail.map (· - 1)) 7 0).length = 14 := by
      have := congrArg List.length S.again
      rw [List.length_map] at this
      (first | exact om558 hts this | omega)
    rw [hl] at h
    unfold txtN
    (first | exact om559 h | omega)
  · have h2 := toksN_len (q := par.tail.map (· - 1)) 7 (pRow par ids wdr k) h7
    have h3 : 2 ^ (7 - pRow par ids wdr k) ≤ 2 ^ 6 := Nat.pow_le_pow_right (by decide) (by (first | exact om560 h7 e | omega))
    have h4 : (2 : Nat) ^ 6 = 64 := by decide
    unfold txtN
    have h5 : (toksN (par.tail.map (· - 1)) 7 (pRow par ids wdr k)).length * (6 + 1) ≤ 64 * 7 := Nat.mul_le_mul_right _ (by (first | exact om561 h2 h3 | omega))
    (first | exact om562 h h2 h3 | omega)
end
end Mine
end

section
open PySem PySem.W PyProof.Rows PySem.Calls PySem.Spec
namespace Mine
noncomputable def wdl (hand : Int) (sc : List Int) : List PySem.Str := (treeSg sc 6).map (due hand)
noncomputable def wdrF (hand : Int) (sc : List Int) (n : Nat) : PySem.Str := (wdl hand sc).getD n (Str.ofString "")
theorem wdl_len (hand : Int) (sc : List Int) : (wdl hand sc).length = 7 := by rw [wdl, List.length_map, treeSg_len]
theorem wdr_of {hand : Int} (hh : hand = 0 ∨ hand = 1 ∨ hand = 2) (sc : List Int) : Wdr hand (wdrF hand sc) := by
  refine ⟨hh, fun n hn => ?_⟩
  refine ⟨(treeSg sc 6).getD n (Str.ofString ""), tree_signs sc _ (List.mem_of_getElem? (getD_some (by rw [treeSg_len]; exact hn) _)), ?_⟩
  exact getD_map (by rw [treeSg_len]; exact hn) _ _
theorem wdr_word {hand : Int} (hh : hand = 0 ∨ hand = 1 ∨ hand = 2) (sc : List Int) (n : Nat) : Word (cpl (wdrF hand sc n)) := by
  rcases Nat.lt_or_ge n 7 with h | h
  · obtain ⟨y, hy, e⟩ := (wdr_of hh sc).w n h
    rw [e]
    exact due_word hh hy
  · unfold wdrF
    rw [List.getD_eq_getElem?_getD, List.getElem?_eq_none (by rw [wdl_len]; exact h)]
    show Word (cpl (Str.ofString ""))
    rw [cpl_nil]
    exact fun c hc => absurd hc List.not_mem_nil
theorem wdr_len' {hand : Int} (hh : hand = 0 ∨ hand = 1 ∨ hand = 2) (sc : List Int) (n : Nat) : (wdrF hand sc n).length ≤ 6 := by
  rcases Nat.lt_or_ge n 7 with h | h
  · obtain ⟨y, hy, e⟩ := (wdr_of hh sc).w n h
    rw [e]
    exact due_len hh hy
  · unfold wdrF
    rw [List.getD_eq_getElem?_getD, List.getElem?_eq_none (by rw [wdl_len]; exact h)]
    decide
theorem due_ok {hand : Int} (hh : hand = 0 ∨ hand = 1 ∨ hand = 2) {y : PySem.Str} (hs : IsSign y) : PyData.strOk (due hand y) = true := by
  rcases hh with rfl | rfl | rfl <;> rcases hs with rfl | rfl | rfl | rfl <;> decide +kernel
theorem pieces_piece (hand : Int) (n : Nat) : ∃ k, Piece (cpl ((piecesF hand 7).getD n (Str.ofString ""))) k ∧ k.length ≤ 4 := by
  rcases Nat.lt_or_ge n 7 with h | h
  · have e : (piecesF hand 7).getD n (Str.ofString "") = hiddenL.getD (((n : Int) + hand).fmod 4).toNat (Str.ofString "") := by
      unfold piecesF
      rw [getD_map (by simpa using h) _ 0]
      congr 3
      rw [List.getD_eq_getElem?_getD, List.getElem?_range h]; rfl
    rw [e]
    exact hidden_piece _
  · refine ⟨[], ⟨.inl ⟨?_, rfl⟩⟩, by decide⟩
    rw [List.getD_eq_getElem?_getD, List.getElem?_eq_none (by simpa [piecesF] using h)]
    decide
theorem pieces_len5 (hand : Int) (n : Nat) : ((piecesF hand 7).getD n (Str.ofString "")).length ≤ 5 := by
  obtain ⟨k, h, _⟩ := pieces_piece hand n
  rw [cpl_len]
  rcases h.all with ⟨e, _⟩ | ⟨e, _⟩ | ⟨e, _⟩ | ⟨e, _⟩ | ⟨e, _⟩ <;> rw [e] <;> decide
/-- what is known of the two lines -/
structure Lines (hand : Int) (sc : List Int) (line plain : PySem.Str) (par ids : List Nat) (ts : List (Option Nat)) (rd rdp : RdSt) (us0 : List (Nat × PySem.Str)) : Prop where
  S : Sh (shapeQ sc) par ids ts
  tl : ts.length = 14
  l1 : line.length ≤ 500
  l2 : (stripF line).length ≤ 500
  r1 : readSt (unitsOf (stripF line)) = some rd
  p1 : plain.length ≤ 400
  p2 : (stripF plain).length ≤ 500
  r2 : readSt (unitsOf (stripF plain)) = some rdp
  ea : rdp.above = rd.above
  ew : rdp.words = rd.words
  ra : rd.above = pAb par
  rw : rd.words = ids.map (wdrF hand sc)
  ok : ∀ y ∈ rd.words, PyData.strOk y = true
  st : stripF (plain ++ Str.ofString "\"\\") = plain ++ Str.ofString "\"\\"
  un : unitsOf (plain ++ Str.ofString "\"\\") = us0 ++ [(plain.length, Str.ofString "\""), (plain.length + 1, Str.ofString "\\")]
  cp : cpl plain = ts.flatMap (tokS (fun n => cpl (wdrF hand sc n)) fun _ => [])
theorem lines_of {hand : Int} (hh : hand = 0 ∨ hand = 1 ∨ hand = 2) (sc : List Int) :
    ∃ par ids ts rd rdp us0, Lines hand sc (lineF (treeAb sc 6) (wdl hand sc) (piecesF hand 7) 7 0) (lineF (treeAb sc 6) (wdl hand sc) (List.replicate 7 (Str.ofString "")) 7 0) par ids ts rd rdp us0 := by
  obtain ⟨par, ids, ts, ets, epar, eids, tl, hst, S⟩ := sh_of (shape_is (shape_check sc))
  have hw := wdr_word hh sc
  obtain ⟨pk, hpk⟩ := Classical.skolem.mp (pieces_piece hand)
  have c1 : cpl (lineF (treeAb sc 6) (wdl hand sc) (piecesF hand 7) 7 0) = ts.flatMap (tokS (fun n => cpl (wdrF hand sc n)) fun n => cpl ((piecesF hand 7).getD n (Str.ofString ""))) := by
    rw [← ets]
    exact lineF_cpl (shape_ab sc) (shapeQ_len sc) _ _ (fun _ => rfl) (fun _ => rfl) 7 0
  have c2 : cpl (lineF (treeAb sc 6) (wdl hand sc) (List.replicate 7 (Str.ofString "")) 7 0) = ts.flatMap (tokS (fun n => cpl (wdrF hand sc n)) fun _ => []) := by
    rw [← ets]
    exact lineF_cpl (shape_ab sc) (shapeQ_len sc) _ _ (fun _ => rfl) (fun n => by rw [rep_getD, cpl_nil]) 7 0
  generalize lineF (treeAb sc 6) (wdl hand sc) (piecesF hand 7) 7 0 = line at c1
  generalize lineF (treeAb sc 6) (wdl hand sc) (List.replicate 7 (Str.ofString "")) 7 0 = plain at c2
  have s1 := strip_toks hw (fun n => (hpk n).1) c1
  have s2 := strip_toks (pk := fun _ => []) hw (fun n => ⟨.inl ⟨rfl, rfl⟩⟩) c2
  obtain ⟨rd, r1, m1⟩ := read_all hw (fun n => (hpk n).1.twos) s1 hst
  obtain ⟨rdp, r2, m2⟩ := read_all (pk := fun _ => []) hw (fun n => .inl rfl) s2 hst
  have b1 := toks_len (wd := fun n => cpl (wdrF hand sc n)) (pc := fun n => cpl ((piecesF hand 7).getD n (Str.ofString ""))) (k := 11) (fun n => by
    have x1 := wdr_len' hh sc n
    have x2 := pieces_len5 hand n
    rw [cpl_len] at x1 x2
    (first | exact om563 x1 x2 | omega)) ts
  have b2 := toks_len (wd := fun n => cpl (wdrF hand sc n)) (pc := pk) (k := 11) (fun n => by
    have x1 := wdr_len' hh sc n
    have x2 := (hpk n).2
    rw [cpl_len] at x1
    (first | exact om564 x1 x2 | omega)) ts
  have b3 := toks_len (wd := fun n => cpl (wdrF hand sc n)) (pc := fun _ => []) (k := 11) (fun n => by
    have x1 := wdr_len' hh sc n
    rw [cpl_len] at x1
    show _ + 0 ≤ 11
    (first | exact om565 x1 | omega)) ts
  rw [← c1, ← cpl_len, tl] at b1
  rw [← s1, ← cpl_len, tl] at b2
  have b4 := b3
  rw [← c2, ← cpl_len, tl] at b3
  rw [← s2, ← cpl_len, tl] at b4
  have ew : ids.map (fun n => (⟨(cpl (wdrF hand sc n)).toArray⟩ : PySem.Str)) = ids.map (wdrF hand sc) := rfl
  have te := toks_esc (pk := fun _ => []) hw ts fun _ => rfl
  rw [← c2] at te
  have tm := tail_mark te.1 te.2 (x := plain ++ Str.ofString "\"\\") (cpl_app _ _)
  have rw1 : rd.words = ids.map (wdrF hand sc) := by rw [m1.ids, eids]
  refine ⟨par, ids, ts, rd, rdp, unitsF (cpl plain) 0 false, S, tl, by (first | exact om566 b1 | omega), by (first | exact om566 b2 | omega), r1, by (first | exact om567 b3 | omega), by (first | exact om566 b4 | omega), r2, by rw [m1.par, m2.par], by rw [m1.ids, m2.ids], (m1.par.trans (by rw [epar]; exact Eq.refl (pAb par))), rw1, ?_, tm.1, tm.2, c2⟩
  intro y hy
  rw [rw1] at hy
  obtain ⟨n, hn, rfl⟩ := List.mem_map.mp hy
  have hn7 := List.mem_range.mp (S.perm.mem_iff.mp hn)
  obtain ⟨z, hz, e⟩ := (wdr_of hh sc).w n hn7
  rw [e]
  exact due_ok hh hz
end Mine
end

section
open PySem PySem.W PyProof.Rows PySem.Calls PySem.Spec
namespace Mine
theorem eqv_ints : ∀ ns : List Int, PyData.eqvAll (ns.map PyData.int) (ns.map PyData.int) = true
  | [] => by simp [PyData.eqvAll]
  | a :: r => by simp [PyData.eqvAll, PyData.eqv, eqv_ints r]
theorem eqv_strs : ∀ ns : List PySem.Str, PyData.eqvAll (ns.map PyData.str) (ns.map PyData.str) = true
  | [] => by simp [PyData.eqvAll]
  | a :: r => by simp [PyData.eqvAll, PyData.eqv, eqv_strs r]
theorem lay_strs : ∀ ns : List PySem.Str, (∀ y ∈ ns, PyData.strOk y = true) → PyData.canLayAll0 (ns.map PyData.str) = true
  | [], _ => rfl
  | a :: r, h => by simp [PyData.canLayAll0, PyData.canLay0, lay_strs r fun y hy => h y (.tail _ hy), h a (.head _)]
theorem depth_strs : ∀ ns : List PySem.Str, PyData.depthAll (ns.map PyData.str) = 0
  | [] => rfl
  | a :: r => by simp [PyData.depthAll, PyData.depth, depth_strs r]
theorem carr_strs : ∀ {vs : List Value} {ns : List PySem.Str}, StrsAre vs ns → CarriedAll vs (ns.map PyData.str)
  | _, _, .nil => .nil
  | _, _, .cons _ t r => .cons (.str _ t) (carr_strs r)
section
variable {prog : Program} {w : World} {A : Around} {E : Value → Shared → Prop} {s : Shared} {L : Addr} {h₀ : Heap} {news : List (Addr × Obj)} {Q : Value → Shared → Prop}
theorem pair_read {t a b : Addr} {va vb : List Value} {na nb : Nat} {ns : List Int} {ss : List PySem.Str} (N : News h₀ L s.heap news) (m1 : (t, tupObj #[.ref a, .ref b]) ∈ news) (m2 : (a, listOf va.toArray na) ∈ news) (m3 : (b, listOf vb.toArray nb) ∈ news)
    (ha : IntsAre va ns) (hb : StrsAre vb ss) : Reads s.heap (.ref t) (.tuple [.list (ns.map PyData.int), .list (ss.map PyData.str)]) ([a] ++ ([b] ++ [])) :=
  reads_tuple_at (News.get N m1) rfl rfl (.cons (reads_newData ⟨_, News.get N m2, rfl, _, rfl⟩ (ke_carried ha)) (.cons (reads_newData ⟨_, News.get N m3, rfl, _, rfl⟩ (carr_strs hb)) .nil))
theorem pair_ne {t a b t' a' b' : Addr} {va vb va' vb' : List Value} {na nb na' nb' : Nat} {ns : List Int} {ss : List PySem.Str} (N : News h₀ L s.heap news) (m1 : (t, tupObj #[.ref a, .ref b]) ∈ news) (m2 : (a, listOf va.toArray na) ∈ news) (m3 : (b, listOf vb.toArray nb) ∈ news)
    (n1 : (t', tupObj #[.ref a', .ref b']) ∈ news) (n2 : (a', listOf va'.toArray na') ∈ news) (n3 : (b', listOf vb'.toArray nb') ∈ news)
    (ha : IntsAre va ns) (hb : StrsAre vb ss) (ha' : IntsAre va' ns) (hb' : StrsAre vb' ss) (hok : ∀ y ∈ ss, PyData.strOk y = true) (hu : A.units + 64 < cLine) (h : Q (.bool false) s) : wpAny (model prog w) A (compareOp .NotEq (.ref t) (.ref t')) Q E s := by
  have sh : SeqAt.shaped (.tuple [.list (ns.map PyData.int), .list (ss.map PyData.str)]) = true := by
    simp [SeqAt.shaped, PyData.canLay0, PyData.canLayAll0, PyData.depth, PyData.depthAll, ke_canLayAll0, ke_depthAll, lay_strs ss hok, depth_strs]
  refine ne_dataH (pair_read N m1 m2 m3 ha hb) (pair_read N n1 n2 n3 ha' hb') sh sh hu ?_
  simp only [PyData.eqv, PyData.eqvAll, eqv_ints, eqv_strs, Bool.and_self, Bool.not_true]
  exact h
theorem two_ne {l t1 t2 l' t1' t2' : Addr} {n n' : Nat} {i1 i2 j1 j2 : Int} {x y : PySem.Str} {a1 a2 b1 b2 a1' a2' b1' b2' : Tok} (N : News h₀ L s.heap news) (m : (l, listOf #[.ref t1, .ref t2] n) ∈ news) (m1 : (t1, tupObj #[.int i1 a1, .str x b1]) ∈ news) (m2 : (t2, tupObj #[.int i2 a2, .str y b2]) ∈ news)
    (m' : (l', listOf #[.ref t1', .ref t2'] n') ∈ news) (m1' : (t1', tupObj #[.int j1 a1', .str x b1']) ∈ news) (m2' : (t2', tupObj #[.int j2 a2', .str y b2']) ∈ news) (hi : i1 = j1) (hj : i2 = j2) (okx : PyData.strOk x = true) (oky : PyData.strOk y = true)
    (hu : A.units + 64 < cLine) (h : Q (.bool false) s) : wpAny (model prog w) A (compareOp .NotEq (.ref l) (.ref l')) Q E s := by
  subst hi hj
  have sh : SeqAt.shaped (.list [.tuple [.int i1, .str x], .tuple [.int i2, .str y]]) = true := by
    simp [SeqAt.shaped, PyData.canLay0, PyData.canLayAll0, PyData.depth, PyData.depthAll, okx, oky]
  have r1 : Reads s.heap (.ref l) (.list [.tuple [.int i1, .str x], .tuple [.int i2, .str y]]) _ := reads_list_at (News.get N m) rfl rfl (.cons (reads_tuple_at (News.get N m1) rfl rfl (.cons (.int _ _) (.cons (.str _ _) .nil))) (.cons (reads_tuple_at (News.get N m2) rfl rfl (.cons (.int _ _) (.cons (.str _ _) .nil))) .nil))
  have r2 : Reads s.heap (.ref l') (.list [.tuple [.int i1, .str x], .tuple [.int i2, .str y]]) _ := reads_list_at (News.get N m') rfl rfl (.cons (reads_tuple_at (News.get N m1') rfl rfl (.cons (.int _ _) (.cons (.str _ _) .nil))) (.cons (reads_tuple_at (News.get N m2') rfl rfl (.cons (.int _ _) (.cons (.str _ _) .nil))) .nil))
  refine ne_dataH r1 r2 sh sh hu ?_
  simp only [PyData.eqv, PyData.eqvAll, beq_self_eq_true, Bool.and_self, Bool.not_true]
  exact h
theorem nones_ne {l l' : Addr} {n n' : Nat} (N : News h₀ L s.heap news) (m : (l, listOf (List.replicate 7 Value.none).toArray n) ∈ news) (m' : (l', listOf (List.replicate 7 Value.none).toArray n') ∈ news)
    (hu : A.units + 64 < cLine) (h : Q (.bool false) s) : wpAny (model prog w) A (compareOp .NotEq (.ref l) (.ref l')) Q E s := by
  have r : ∀ {l : Addr} {n : Nat}, (l, listOf (List.replicate 7 Value.none).toArray n) ∈ news → Reads s.heap (.ref l) (.list (List.replicate 7 .none)) _ := fun m => reads_list_at (News.get N m) rfl rfl (.cons .none (.cons .none (.cons .none (.cons .none (.cons .none (.cons .none (.cons .none .nil)))))))
  have sh : SeqAt.shaped (.list (List.replicate 7 .none)) = true := by decide
  refine ne_dataH (r m) (r m') sh sh hu ?_
  have e : PyData.eqv (.list (List.replicate 7 .none)) (.list (List.replicate 7 .none)) = true := by decide
  rw [e]
  exact h
theorem ints_ne {t t' : Addr} {a b : Int} {u1 u2 u3 u4 : Tok} (N : News h₀ L s.heap news) (m : (t, tupObj #[.int a u1, .int b u2]) ∈ news) (m' : (t', tupObj #[.int a u3, .int b u4]) ∈ news)
    (hu : A.units + 64 < cLine) (h : Q (.bool false) s) : wpAny (model prog w) A (compareOp .NotEq (.ref t) (.ref t')) Q E s := by
  have r : ∀ {t : Addr} {u1 u2 : Tok}, (t, tupObj #[.int a u1, .int b u2]) ∈ news → Reads s.heap (.ref t) (.tuple [.int a, .int b]) _ := fun m => reads_tuple_at (News.get N m) rfl rfl (.cons (.int _ _) (.cons (.int _ _) .nil))
  have sh : SeqAt.shaped (.tuple [.int a, .int b]) = true := by simp [SeqAt.shaped, PyData.canLay0, PyData.canLayAll0, PyData.depth, PyData.depthAll]
  refine ne_dataH (r m) (r m') sh sh hu ?_
  simp only [PyData.eqv, PyData.eqvAll, beq_self_eq_true, Bool.and_self, Bool.not_true]
  exact h
end
end Mine
end

section
open PySem PySem.W PyProof.Rows PySem.Calls PySem.Spec
namespace Mine
local macro_rules | `(tactic| k_all) => `(tactic| first | assumption | exact all_lt_ne (by assumption) (by omega))
local macro_rules | `(tactic| k_ne) => `(tactic| (show @Ne Nat _ _; omega))
local macro_rules | `(tactic| k_mem) => `(tactic| first | assumption | (refine List.mem_cons_of_mem _ ?_; first | assumption | k_mem))
local macro_rules | `(tactic| walk_at "call ref") => `(tactic| (refine Halt.mk ?_))
local macro_rules | `(tactic| walk_at "pyIter ref") => `(tactic| (refine Halt.mk ?_))
local macro_rules | `(tactic| walk_at "subscriptTail") => `(tactic| (refine Halt.mk ?_))
local macro_rules | `(tactic| walk_at "subscriptTail Name BinOp") => `(tactic| (refine Halt.mk ?_))
local macro_rules | `(tactic| walk_at "call builtin:sum") => `(tactic| (refine Halt.mk ?_))
local macro_rules | `(tactic| walk_at "call builtin:len") => `(tactic| (refine Halt.mk ?_))
local macro_rules | `(tactic| walk_at "eval ListComp") => `(tactic| (refine Halt.mk ?_))
local macro_rules | `(tactic| walk_at "exec Assign cons ListComp") => `(tactic| (refine Halt.mk ?_))
local macro_rules | `(tactic| walk_at "assign Tuple") => `(tactic| (refine Halt.mk ?_))
local macro_rules | `(tactic| walk_at "CompSrc") => `(tactic| (refine Halt.mk ?_))
local macro_rules | `(tactic| walk_at "CompSrcT") => `(tactic| (refine Halt.mk ?_))
local macro_rules | `(tactic| walk_at "eval Name") => `(tactic| walk_at "mine:r7")
local macro_rules | `(tactic| walk_at "binaryOp Add int int") => `(tactic| (refine Halt.mk ?_))
local macro_rules | `(tactic| walk_at "binaryOp Mod int int") => `(tactic| (refine Halt.mk ?_))
theorem law_0 (w : World) (mean : ExcName → Option Value) (mg mb : PySem.Str → Option Value) (lsc : Addr) (vsc : List Value) (sc : List Int) (hsc : IntsAre vsc sc) (hlen : sc.length ≤ 63) :
  ∀ (fa : Addr) (cd : Value) (L1 : Addr) (h₀ : Heap) (s : Shared) (u : PySem.Str → Option Value) (c1 c2 c3 c4 c5 c6 c7 c8 c9 c10 : Obj) (news : List (Addr × Obj)) (Q' : Flow → Shared → Prop) (E' : Value → Shared → Prop),
    Below callerA h₀ [] h₀ → Fr h₀ L1 s.heap (kstB u [(Str.ofString "script", .ref lsc)]) → (Mine.hd.heap_39 w.params).In h₀ →
    News h₀ L1 s.heap (cells10 L1 c1 c2 c3 c4 c5 c6 c7 c8 c9 c10 news) → c8.data = .cell none → c9.data = .cell none → c10.data = .cell none →
    Top topProg lzz mean mg mb h₀ → h₀.IsList lsc vsc.toArray → (∀ p ∈ news, @LT.lt Nat _ p.1 L1) →
    (∀ (s' : Shared) u' lab lsg lpc va vs vp na ns np c8' c9' c10' th, SameX s s' → Fr h₀ L1 s'.heap (kstB u' [(Str.ofString "pieces", .ref lpc), (Str.ofString "signs", .ref lsg), (Str.ofString "script", .ref lsc)]) →
      News h₀ L1 s'.heap (cells10 L1 c1 c2 c3 c4 c5 c6 c7 c8' c9' c10' ((lpc, listOf vp.toArray np) :: (lsg, listOf vs.toArray ns) :: (lab, listOf va.toArray na) :: news)) → IntsAre va (treeAb sc 6) → StrsAre vs (treeSg sc 6) → StrsAre vp (piecesF (sc.sum.fmod 3) 7) →
      c9'.data = .cell (some (.int (sc.sum.fmod 3) th)) → c10'.data = .cell (some (.ref lab)) → (∃ v, c8'.data = .cell v) → Apart L1 ((lpc, listOf vp.toArray np) :: (lsg, listOf vs.toArray ns) :: (lab, listOf va.toArray na) :: news) →
      wpAny (model Challenge.rw_ux0024_01.row.toRowW.prog w) (callerA.deeper (envOfC (Str.ofString "law") lawScope L1 fa cd)) (execs (lawBody.drop 4) (envOfC (Str.ofString "law") lawScope L1 fa cd)) Q' E' s') →
    wpAny (model Challenge.rw_ux0024_01.row.toRowW.prog w) (callerA.deeper (envOfC (Str.ofString "law") lawScope L1 fa cd)) (execs (lawBody.drop 0) (envOfC (Str.ofString "law") lawScope L1 fa cd)) Q' E' s := by
  k_fill
  revert hsc hlen
  revert lzz w mean mg mb lsc vsc sc
  refine @pk8 _ _ _ _ _ _ _ _  ⟨default, (aWorld 0), default, default, default, default, default, default⟩ _ ?_; generalize pick8 _ _ = zz; generalize zz.1 = lzz; generalize zz.2.1 = w; generalize zz.2.2.1 = mean; generalize zz.2.2.2.1 = mg; generalize zz.2.2.2.2.1 = mb; generalize zz.2.2.2.2.2.1 = lsc; generalize zz.2.2.2.2.2.2.1 = vsc; generalize zz.2.2.2.2.2.2.2 = sc; clear zz
  intro hsc hlen
  intro fa cd L1 h₀ s u c1 c2 c3 c4 c5 c6 c7 c8 c9 c10 news Q' E' B F X N d8 d9 d10 T hL hlt hnext
  revert B F X N d8 d9 d10 T hL hlt hnext
  revert fa cd L1 h₀ s u c1 c2 c3 c4 c5 c6 c7 c8 c9 c10 news Q' E'
  refine pk12 (o := ⟨default, default, default, default, ({} : Shared), default, default, default, default, default, default, default⟩) ?_; generalize pick12 _ _ = zz; generalize zz.1 = fa; generalize zz.2.1 = cd; generalize zz.2.2.1 = L1; generalize zz.2.2.2.1 = h₀; generalize zz.2.2.2.2.1 = s; generalize zz.2.2.2.2.2.1 = u; generalize zz.2.2.2.2.2.2.1 = c1; generalize zz.2.2.2.2.2.2.2.1 = c2; generalize zz.2.2.2.2.2.2.2.2.1 = c3; generalize zz.2.2.2.2.2.2.2.2.2.1 = c4; generalize zz.2.2.2.2.2.2.2.2.2.2.1 = c5; generalize zz.2.2.2.2.2.2.2.2.2.2.2 = c6; clear zz
  refine pk7 ?_; generalize pick7 _ _ = zz; generalize zz.1 = c7; generalize zz.2.1 = c8; generalize zz.2.2.1 = c9; generalize zz.2.2.2.1 = c10; generalize zz.2.2.2.2.1 = news; generalize zz.2.2.2.2.2.1 = Q'; generalize zz.2.2.2.2.2.2 = E'; clear zz
  intro B F X N d8 d9 d10 T hL hlt hnext
  (conv in (lawBody.drop 0) => whnf)
  generalize hsco : lawScope = sco at hnext ⊢
  (have hsco' := hsco.symm; conv at hsco' in lawScope => whnf)
  subst hsco'
  dsimp only [cells10] at N
  dsimp only [kstB] at F
  k_steps
  unfold Halt
  refine tree_tells w mean mg mb lsc vsc sc hsc hlen _ _ _ _ _ _ _ _ _ _ _ _ _ _ _ _ _ _ (by assumption) (by assumption) (by assumption) (by assumption) (by assumption) rfl (by decide) (by decide) hL ?_
  intro lab lsg lt va vs na ns h1 tk1 iva ivs F1 N1 r1 r2 r3
  revert iva ivs F1 N1 r1 r2 r3
  revert lab lsg lt va vs na ns h1 tk1
  refine pk9 ?_; generalize pick9 _ _ = zz; generalize zz.1 = lab; generalize zz.2.1 = lsg; generalize zz.2.2.1 = lt; generalize zz.2.2.2.1 = va; generalize zz.2.2.2.2.1 = vs; generalize zz.2.2.2.2.2.1 = na; generalize zz.2.2.2.2.2.2.1 = ns; generalize zz.2.2.2.2.2.2.2.1 = h1; generalize zz.2.2.2.2.2.2.2.2 = tk1; clear zz
  intro iva ivs F1 N1 r1 r2 r3
  have z1 : @LT.lt Nat _ (L1 + 1 + 1 + 1 + 1 + 1 + 1 + 1 + 1 + 1 + 1) lab := r1 _ (.head _)
  have z2 : @LT.lt Nat _ lab lsg := r2
  have z3 : @LT.lt Nat _ lsg lt := r3
  clear r1 r2 r3
  k_steps
  unfold Halt
  walk_at "mine:unpk"
  k_steps
  unfold Halt
  (rename Fr _ _ _ _ => F2)
  (rename News _ _ _ _ => N2)
  refine sumK rfl F2 N2 (list_up hL F2) hsc ?_
  intro h3 t3 tk3 F3 N3
  rename_i zv2 zv1 zv0
  revert zv1 F2 N2 F3 N3
  revert zv2 zv0 tk h3 t3 tk3
  refine pk6 ?_; generalize pick6 _ _ = zz; generalize zz.1 = zv2; generalize zz.2.1 = zv0; generalize zz.2.2.1 = tk; generalize zz.2.2.2.1 = h3; generalize zz.2.2.2.2.1 = t3; generalize zz.2.2.2.2.2 = tk3; clear zz
  intro _ F2 N2 F3 N3
  k_steps
  unfold Halt
  refine PyProof.Rows.mod_int' (by decide) ?_
  k_steps
  unfold Halt
  (rename Fr _ _ _ _ => F4)
  (rename News _ _ _ ((_, W.listOf _ 0) :: (lt, _) :: _) => N4)
  obtain ⟨lh, hlh⟩ := headIs N4
  subst hlh
  (rename lt < lh ∧ _ => hz)
  have z4 : @LT.lt Nat _ lt lh := hz.1
  clear hz
  have q1 : 0 ≤ sc.sum.fmod 3 := Int.fmod_nonneg_of_pos _ (by decide)
  have q2 : sc.sum.fmod 3 < 3 := Int.fmod_lt_of_pos _ (by decide)
  refine LCg.Assign_ListComp_U (F₀ := F4) (by rfl) (by with_unfolding_all rfl) (by with_unfolding_all rfl) (by decide) (by rfl) (by decide) (by rfl) (by rfl) (by rfl) ?_
  k_steps
  unfold Halt
  (rename News _ _ _ ((_, W.listOf _ 0) :: (lt, _) :: _) => N5)
  obtain ⟨nw0, hnw0⟩ := newsIs N5
  refine LCg.CompSrc.range (n := 7) rfl (by assumption) (by assumption) (by assumption) (by decide) (by decide) (by decide) ?_
  intro g
  rename_i zv18 zv17 zv16 _ zv15 zv14 zv13 zv12 zv11 zv10 zv9 zv8 zv7 zv6 zv5 zv4 zv3
  revert zv17 zv13 zv12 zv11 z4 zv5 zv4 N5 zv3 hnw0
  revert zv18 zv16 zv15 zv14 tk lh zv10 zv9 zv8 zv7 zv6 nw0 g
  refine pk12 ?_; generalize pick12 _ _ = zz; generalize zz.1 = zv18; generalize zz.2.1 = zv16; generalize zz.2.2.1 = zv15; generalize zz.2.2.2.1 = zv14; generalize zz.2.2.2.2.1 = tk; generalize zz.2.2.2.2.2.1 = lh; generalize zz.2.2.2.2.2.2.1 = zv10; generalize zz.2.2.2.2.2.2.2.1 = zv9; generalize zz.2.2.2.2.2.2.2.2.1 = zv8; generalize zz.2.2.2.2.2.2.2.2.2.1 = zv7; generalize zz.2.2.2.2.2.2.2.2.2.2.1 = zv6; generalize zz.2.2.2.2.2.2.2.2.2.2.2 = nw0; clear zz
  refine pk1 ?_; generalize pick1 _ _ = g
  intro _ _ _ _ z4 _ _ N5 _ hnw0
  refine compU_inv (fun i ys nw => StrsAre ys (piecesF (sc.sum.fmod 3) i) ∧ nw = nw0) ⟨.nil, hnw0.symm⟩ ?_ ?_
  · intro i ys nw v I oI C oC D m₂ h6 tk6 E6 hi hJ hv hC hx F6 N6 off6 ne6
    revert hi hJ hv hC hx F6 N6 off6 ne6
    revert i ys nw v I oI C oC D m₂ h6 tk6 E6
    refine pk12 ?_; generalize pick12 _ _ = zz; generalize zz.1 = i; generalize zz.2.1 = ys; generalize zz.2.2.1 = nw; generalize zz.2.2.2.1 = v; generalize zz.2.2.2.2.1 = I; generalize zz.2.2.2.2.2.1 = oI; generalize zz.2.2.2.2.2.2.1 = C; generalize zz.2.2.2.2.2.2.2.1 = oC; generalize zz.2.2.2.2.2.2.2.2.1 = D; generalize zz.2.2.2.2.2.2.2.2.2.1 = m₂; generalize zz.2.2.2.2.2.2.2.2.2.2.1 = h6; generalize zz.2.2.2.2.2.2.2.2.2.2.2 = tk6; clear zz
    refine pk1 ?_; generalize pick1 _ _ = E6
    intro hi hJ hv hC hx F6 N6 off6 ne6
    obtain ⟨hys, rfl⟩ := hJ
    obtain ⟨tv, rfl⟩ := hv
    rw [hnw0] at N6 off6
    have p1 : 0 ≤ ((i : Int) + sc.sum.fmod 3).fmod 4 := Int.fmod_nonneg_of_pos _ (by decide)
    have p2 : ((i : Int) + sc.sum.fmod 3).fmod 4 < 4 := Int.fmod_lt_of_pos _ (by decide)
    rw [Int.zero_add] at hx
    k_steps
    unfold Halt
    walk_at "mine:nmc"
    k_steps
    unfold Halt
    walk_at "mine:nmo"
    k_steps
    unfold Halt
    walk_at "mine:nmc"
    k_steps
    unfold Halt
    refine PyProof.Rows.add_int ?_
    k_steps
    unfold Halt
    refine PyProof.Rows.mod_int' (by decide) ?_
    k_steps
    unfold Halt
    refine item_strs (ss := hiddenL) N6 (.tail _ (.tail _ (.tail _ (.head _)))) (.cons _ _ (.cons _ _ (.cons _ _ (.cons _ _ .nil)))) (by (first | exact om90 p1 | omega)) (by show _ < (4 : Int); (first | exact om568 p2 | omega)) (by (first | exact om569 p1 p2 | omega)) ?_ (by with_unfolding_all rfl)
    intro t7
    refine LCg.CompEnd.intro (by assumption) (by assumption) _ (fun p hp => hp) off6 trivial ⟨?_, hnw0.symm⟩
    rw [piecesF_succ]
    exact StrsAre.snoc hys _ _
  · intro ys nw hJ
    revert hJ
    revert ys nw
    refine pk2 ?_; generalize pick2 _ _ = zz; generalize zz.1 = ys; generalize zz.2 = nw; clear zz
    intro hJ
    obtain ⟨hys, rfl⟩ := hJ
    intro D h6 tk6 F6 N6 off6
    rw [hnw0] at N6 off6
    (rename Obj.data _ = .cell (some (.int _ _)) => e9)
    (rename Obj.data _ = .cell (some (.ref lab)) => e10)
    (rename Obj.data _ = .cell (some (.ref lh)) => e8)
    obtain ⟨c9', h9⟩ := objOf e9
    obtain ⟨c10', h10⟩ := objOf e10
    obtain ⟨c8', h8⟩ := objOf e8
    subst h8 h9 h10
    have hDa := apart_new (L1 := L1) (c1 := c1) (c2 := c2) (c3 := c3) (c4 := c4) (c5 := c5) (c6 := c6) (c7 := c7) (fun p hp => by
      simp only [cells10, List.mem_cons, List.not_mem_nil, or_false] at hp
      rcases hp with rfl | rfl | rfl | rfl | rfl | rfl | rfl | rfl | rfl | rfl <;> walk_at "mine:cmem") (off1_mem' off6)
    refine hnext _ _ lab lsg D va vs ys na ns ys.length c8' c9' c10' _ ⟨rfl, rfl, fun x => x⟩ (fr_ps F6 _ ?_) (newsSub N6 _ ?_) iva ivs hys e9 e10 ⟨_, e8⟩ ?_
    · exact List.forall_mem_cons.mpr ⟨rfl, List.forall_mem_cons.mpr ⟨rfl, List.forall_mem_cons.mpr ⟨rfl, List.forall_mem_nil _⟩⟩⟩
    · walk_at "mine:sub"
    · refine Apart.cons hDa (Apart.cons (.inr ?_) (Apart.cons (.inr ?_) fun p hp => .inl (Nat.lt_succ_of_lt (hlt p hp))))
      · show @LT.lt Nat _ _ _; (first | exact om135 z1 z2 | omega)
      · show @LT.lt Nat _ _ _; (first | exact om132 z1 | omega)
end Mine
end

section
open PySem PySem.W PyProof.Rows PySem.Calls PySem.Spec
namespace Mine
local macro_rules | `(tactic| k_all) => `(tactic| first | assumption | exact Apart.ne (by assumption) (by show @LT.lt Nat _ _ _; omega) (by show @LE.le Nat _ _ _; omega) | exact all_lt_ne (by assumption) (by omega))
local macro_rules | `(tactic| k_ne) => `(tactic| (show @Ne Nat _ _; omega))
local macro_rules | `(tactic| k_mem) => `(tactic| first | assumption | (refine List.mem_cons_of_mem _ ?_; first | assumption | k_mem))
local macro_rules | `(tactic| walk_at "call ref") => `(tactic| (refine Halt.mk ?_))
local macro_rules | `(tactic| walk_at "pyIter ref") => `(tactic| (refine Halt.mk ?_))
local macro_rules | `(tactic| walk_at "subscriptTail") => `(tactic| (refine Halt.mk ?_))
local macro_rules | `(tactic| walk_at "subscriptTail Name BinOp") => `(tactic| (refine Halt.mk ?_))
local macro_rules | `(tactic| walk_at "subscriptTail Name Name ref int") => `(tactic| (refine Halt.mk ?_))
local macro_rules | `(tactic| walk_at "subscriptTail Name BinOp ref int") => `(tactic| (refine Halt.mk ?_))
local macro_rules | `(tactic| walk_at "subscriptTail Name Constant ref int") => `(tactic| (refine Halt.mk ?_))
local macro_rules | `(tactic| walk_at "subscriptTail Name UnaryOp ref int") => `(tactic| (refine Halt.mk ?_))
local macro_rules | `(tactic| walk_at "subscriptTail Name Slice ref ref") => `(tactic| (refine Halt.mk ?_))
local macro_rules | `(tactic| walk_at "subscriptTail Call") => `(tactic| (refine Halt.mk ?_))
local macro_rules | `(tactic| walk_at "subscriptTail Name") => `(tactic| (refine Halt.mk ?_))
local macro_rules | `(tactic| walk_at "subscriptTail Subscript Name Name Constant ref int") => `(tactic| (refine Halt.mk ?_))
local macro_rules | `(tactic| walk_at "subscriptTail Subscript Name Name Name ref int") => `(tactic| (refine Halt.mk ?_))
local macro_rules | `(tactic| walk_at "subscriptTail Subscript") => `(tactic| (refine Halt.mk ?_))
local macro_rules | `(tactic| walk_at "call builtin:sum") => `(tactic| (refine Halt.mk ?_))
local macro_rules | `(tactic| walk_at "call builtin:len") => `(tactic| walk_at "mine:r8")
local macro_rules | `(tactic| walk_at "eval ListComp") => `(tactic| (refine Halt.mk ?_))
local macro_rules | `(tactic| walk_at "exec Assign cons ListComp") => `(tactic| (refine Halt.mk ?_))
local macro_rules | `(tactic| walk_at "assign Tuple") => `(tactic| (refine Halt.mk ?_))
local macro_rules | `(tactic| walk_at "CompSrc") => `(tactic| (refine Halt.mk ?_))
local macro_rules | `(tactic| walk_at "CompSrcT") => `(tactic| (refine Halt.mk ?_))
local macro_rules | `(tactic| walk_at "binaryOp Mult ref int") => `(tactic| (refine Halt.mk ?_))
local macro_rules | `(tactic| walk_at "eval Name") => `(tactic| walk_at "mine:r7")
local macro_rules | `(tactic| walk_at "eval Name") => `(tactic| (k_here; (with_reducible show wpAny _ _ (eval (Expr.Name _ _) (envOfC _ _ _ _ _)) _ _ _); k_dflt (refine' nameX_C ?N ?c ?m ?d ?_ ?a ?b; (case b => rfl); (case a => rfl); (case N => assumption); (case c => rfl); (case m => walk_at "mine:cmem"); (case d => assumption); k_whole)))

section
open PySem PySem.W PyProof.Rows PySem.Calls PySem.Spec
local macro_rules | `(tactic| walk_at "execs cons") => `(tactic| walk_at "mine:r9")
theorem law_1 (w : World) (mean : ExcName → Option Value) (mg mb : PySem.Str → Option Value) (hand : Int) (th : Tok) (hh : hand = 0 ∨ hand = 1 ∨ hand = 2) (lab lsg lpc : Addr) (vab vsg vpc : List Value) (nab nsg npc : Nat) (ab : List Int) (sg pc : List PySem.Str)
    (hab : IntsAre vab ab) (hsg : StrsAre vsg sg) (hpc : StrsAre vpc pc) (l1 : ab.length = 7) (l2 : sg.length = 7) (l3 : pc.length = 7) (hs : ∀ y ∈ sg, IsSign y) (b3 : ∀ i : Nat, (pc.getD i (Str.ofString "")).length ≤ 5) :
  ∀ (fa : Addr) (cd : Value) (L1 : Addr) (h₀ : Heap) (s : Shared) (u : PySem.Str → Option Value) (sv : Value) (c1 c2 c3 c4 c5 c6 c7 c8 c9 c10 : Obj) (news : List (Addr × Obj)) (Q' : Flow → Shared → Prop) (E' : Value → Shared → Prop),
    Below callerA h₀ [] h₀ → Fr h₀ L1 s.heap (kstB u [(Str.ofString "pieces", .ref lpc), (Str.ofString "signs", .ref lsg), (Str.ofString "script", sv)]) → (Mine.hd.heap_39 w.params).In h₀ →
    News h₀ L1 s.heap (cells10 L1 c1 c2 c3 c4 c5 c6 c7 c8 c9 c10 ((lpc, listOf vpc.toArray npc) :: (lsg, listOf vsg.toArray nsg) :: (lab, listOf vab.toArray nab) :: news)) → c7.data = .cell none → c9.data = .cell (some (.int hand th)) → c10.data = .cell (some (.ref lab)) →
    Top topProg lzz mean mg mb h₀ → Apart L1 ((lpc, listOf vpc.toArray npc) :: (lsg, listOf vsg.toArray nsg) :: (lab, listOf vab.toArray nab) :: news) →
    (∀ (s' : Shared) u' lwd vw nw c7' tl tp, SameX s s' → Fr h₀ L1 s'.heap (kstB u' [(Str.ofString "plain", .str (lineF ab (sg.map (due hand)) (List.replicate 7 (Str.ofString "")) 7 0) tp), (Str.ofString "line", .str (lineF ab (sg.map (due hand)) pc 7 0) tl), (Str.ofString "script", sv)]) →
      News h₀ L1 s'.heap (cells10 L1 c1 c2 c3 c4 c5 c6 c7' c8 c9 c10 ((lwd, listOf vw.toArray nw) :: (lab, listOf vab.toArray nab) :: news)) → StrsAre vw (sg.map (due hand)) → c7'.data = .cell (some (.ref lwd)) → Apart L1 ((lwd, listOf vw.toArray nw) :: (lab, listOf vab.toArray nab) :: news) →
      wpAny (model Challenge.rw_ux0024_01.row.toRowW.prog w) (callerA.deeper (envOfC (Str.ofString "law") lawScope L1 fa cd)) (execs (lawBody.drop 7) (envOfC (Str.ofString "law") lawScope L1 fa cd)) Q' E' s') →
    wpAny (model Challenge.rw_ux0024_01.row.toRowW.prog w) (callerA.deeper (envOfC (Str.ofString "law") lawScope L1 fa cd)) (execs (lawBody.drop 4) (envOfC (Str.ofString "law") lawScope L1 fa cd)) Q' E' s := by
  k_fill
  revert hh hab hsg hpc l1 l2 l3 hs b3
  revert lzz w mean mg mb hand th lab lsg lpc vab vsg vpc nab nsg npc ab sg pc
  refine @pk12 _ _ _ _ _ _ _ _ _ _ _ _  ⟨default, (aWorld 0), default, default, default, default, default, default, default, default, default, default⟩ _ ?_; generalize pick12 _ _ = zz; generalize zz.1 = lzz; generalize zz.2.1 = w; generalize zz.2.2.1 = mean; generalize zz.2.2.2.1 = mg; generalize zz.2.2.2.2.1 = mb; generalize zz.2.2.2.2.2.1 = hand; generalize zz.2.2.2.2.2.2.1 = th; generalize zz.2.2.2.2.2.2.2.1 = lab; generalize zz.2.2.2.2.2.2.2.2.1 = lsg; generalize zz.2.2.2.2.2.2.2.2.2.1 = lpc; generalize zz.2.2.2.2.2.2.2.2.2.2.1 = vab; generalize zz.2.2.2.2.2.2.2.2.2.2.2 = vsg; clear zz
  refine @pk7 _ _ _ _ _ _ _ inferInstance _ ?_; generalize pick7 _ _ = zz; generalize zz.1 = vpc; generalize zz.2.1 = nab; generalize zz.2.2.1 = nsg; generalize zz.2.2.2.1 = npc; generalize zz.2.2.2.2.1 = ab; generalize zz.2.2.2.2.2.1 = sg; generalize zz.2.2.2.2.2.2 = pc; clear zz
  intro hh hab hsg hpc l1 l2 l3 hs b3
  intro fa cd L1 h₀ s u sv c1 c2 c3 c4 c5 c6 c7 c8 c9 c10 news Q' E' B F X N d7 d9 d10 T hap hnext
  revert B F X N d7 d9 d10 T hap hnext
  revert fa cd L1 h₀ s u sv c1 c2 c3 c4 c5 c6 c7 c8 c9 c10 news Q' E'
  refine pk12 (o := ⟨default, default, default, default, ({} : Shared), default, default, default, default, default, default, default⟩) ?_; generalize pick12 _ _ = zz; generalize zz.1 = fa; generalize zz.2.1 = cd; generalize zz.2.2.1 = L1; generalize zz.2.2.2.1 = h₀; generalize zz.2.2.2.2.1 = s; generalize zz.2.2.2.2.2.1 = u; generalize zz.2.2.2.2.2.2.1 = sv; generalize zz.2.2.2.2.2.2.2.1 = c1; generalize zz.2.2.2.2.2.2.2.2.1 = c2; generalize zz.2.2.2.2.2.2.2.2.2.1 = c3; generalize zz.2.2.2.2.2.2.2.2.2.2.1 = c4; generalize zz.2.2.2.2.2.2.2.2.2.2.2 = c5; clear zz
  refine pk8 ?_; generalize pick8 _ _ = zz; generalize zz.1 = c6; generalize zz.2.1 = c7; generalize zz.2.2.1 = c8; generalize zz.2.2.2.1 = c9; generalize zz.2.2.2.2.1 = c10; generalize zz.2.2.2.2.2.1 = news; generalize zz.2.2.2.2.2.2.1 = Q'; generalize zz.2.2.2.2.2.2.2 = E'; clear zz
  intro B F X N d7 d9 d10 T hap hnext
  (conv in (lawBody.drop 4) => whnf)
  generalize hsco : lawScope = sco at hnext ⊢
  (have hsco' := hsco.symm; conv at hsco' in lawScope => whnf)
  subst hsco'
  dsimp only [cells10] at N
  dsimp only [kstB] at F
  have b2 : ∀ i : Nat, ((sg.map (due hand)).getD i (Str.ofString "")).length ≤ 6 := fun i => by
    rw [List.getD_eq_getElem?_getD, List.getElem?_map]
    cases e : sg[i]? with
    | none => rw [Option.map_none, Option.getD_none]; decide
    | some y => exact due_len hh (hs y (List.mem_of_getElem? e))
  have p1 := hap.head
  have p2 := hap.tail.head
  have p3 := hap.tail.tail.head
  have pn := hap.tail.tail.tail
  k_steps
  unfold Halt
  refine wpAny_Assign_Name ?_ (by with_unfolding_all rfl)
  k_steps
  unfold Halt
  (rename Fr _ _ _ _ => F1)
  refine LCg.ListComp_U (F₀ := F1) (by with_unfolding_all rfl) (by decide) (by rfl) (by decide) (by rfl) ?_
  k_steps
  unfold Halt
  (rename News _ _ _ _ => N5)
  obtain ⟨nw0, hnw0⟩ := newsIs N5
  refine LCg.CompSrc.ledger rfl (by assumption) (by assumption) (by k_mem) (by rw [List.size_toArray, strs_len hsg, l2]; decide) ?_
  intro g
  revert g
  refine pk1 ?_; generalize pick1 _ _ = g
  rw [List.size_toArray, strs_len hsg, l2]
  refine compU_inv (fun i ys nw => StrsAre ys ((sg.take i).map (due hand)) ∧ nw = nw0) ⟨.nil, hnw0.symm⟩ ?_ ?_
  · intro i ys nw v I oI C oC D m₂ h6 tk6 E6 hi hJ hv hC hx F6 N6 off6 ne6
    revert hnw0 hi hJ hv hC hx F6 N6 off6 ne6
    revert nw0 i ys nw v I oI C oC D m₂ h6 tk6 E6
    refine pk12 ?_; generalize pick12 _ _ = zz; generalize zz.1 = nw0; generalize zz.2.1 = i; generalize zz.2.2.1 = ys; generalize zz.2.2.2.1 = nw; generalize zz.2.2.2.2.1 = v; generalize zz.2.2.2.2.2.1 = I; generalize zz.2.2.2.2.2.2.1 = oI; generalize zz.2.2.2.2.2.2.2.1 = C; generalize zz.2.2.2.2.2.2.2.2.1 = oC; generalize zz.2.2.2.2.2.2.2.2.2.1 = D; generalize zz.2.2.2.2.2.2.2.2.2.2.1 = m₂; generalize zz.2.2.2.2.2.2.2.2.2.2.2 = h6; clear zz
    refine pk2 ?_; generalize pick2 _ _ = zz; generalize zz.1 = tk6; generalize zz.2 = E6; clear zz
    intro hnw0 hi hJ hv hC hx F6 N6 off6 ne6
    obtain ⟨hys, rfl⟩ := hJ
    rw [hnw0] at N6 off6
    rw [List.getElem?_toArray] at hv
    obtain ⟨y, ty, rfl, hy⟩ := strs_at hsg hv
    k_steps
    unfold Halt
    walk_at "mine:nmg"
    k_steps
    unfold Halt
    walk_at "mine:nmc"
    k_steps
    unfold Halt
    walk_at "mine:nmo"
    k_steps
    unfold Halt
    refine due_tells w mean mg mb hand th y ty _ _ _ _ _ _ _ _ _ _ _ _ _ _ _ _ _ _ (by assumption) (by assumption) (by assumption) (by assumption) (by assumption) rfl (by decide) (by decide) ?_
    intro t7 h7 tk7 F7 N7
    k_steps
    refine LCg.CompEnd.intro (by assumption) (by assumption) _ (fun p hp => hp) off6 (.inr ⟨_, by k_mem, rfl, _, rfl⟩) ⟨?_, hnw0.symm⟩
    rw [List.take_add_one, hy, List.map_append]
    exact StrsAre.snoc hys _ _
  · intro ys nw hJ
    revert hnw0 hJ
    revert nw0 ys nw
    refine pk3 ?_; generalize pick3 _ _ = zz; generalize zz.1 = nw0; generalize zz.2.1 = ys; generalize zz.2.2 = nw; clear zz
    intro hnw0 hJ
    obtain ⟨hys, rfl⟩ := hJ
    intro D h6 tk6 F6 N6 off6
    rw [hnw0] at N6 off6
    rw [List.take_of_length_le (by (first | exact om10 l2 | omega))] at hys
    have hDa := apart_off (L1 := L1) off6
    k_steps
    unfold Halt
    (rename Fr _ _ _ _ => F8)
    refine LCg.ListComp_U (F₀ := F8) (by with_unfolding_all rfl) (by decide) (by rfl) (by decide) (by rfl) ?_
    k_steps
    unfold Halt
    (rename News _ _ _ _ => N9)
    obtain ⟨nw1, hnw1⟩ := newsIs N9
    (rename Obj.data _ = .cell (some (.ref D)) => e7)
    obtain ⟨c7', h7⟩ := objOf e7
    subst h7
    refine LCg.CompSrc.ledger rfl (by assumption) (by assumption) (by k_mem) (by rw [List.size_toArray, strs_len hsg, l2]; decide) ?_
    intro g
    rename_i zv0
    revert off6 hDa F8 N9 e7 hnw1
    revert D tk6 zv0 nw1 c7' g
    refine pk6 ?_; generalize pick6 _ _ = zz; generalize zz.1 = D; generalize zz.2.1 = tk6; generalize zz.2.2.1 = zv0; generalize zz.2.2.2.1 = nw1; generalize zz.2.2.2.2.1 = c7'; generalize zz.2.2.2.2.2 = g; clear zz
    intro off6 hDa F8 N9 e7 hnw1
    rw [List.size_toArray, strs_len hsg, l2]
    refine compU_inv (fun i ys nw => StrsAre ys ((sg.take i).map (due hand)) ∧ nw = nw1) ⟨.nil, hnw1.symm⟩ ?_ ?_
    · intro i ys2 nw v I oI C oC D2 m₂ h10 tk10 E10 hi hJ hv hC hx F10 N10 off10 ne10
      revert hi hJ hv hC hx F10 N10 off10 ne10
      revert i ys2 nw v I oI C oC D2 m₂ h10 tk10 E10
      refine pk12 ?_; generalize pick12 _ _ = zz; generalize zz.1 = i; generalize zz.2.1 = ys2; generalize zz.2.2.1 = nw; generalize zz.2.2.2.1 = v; generalize zz.2.2.2.2.1 = I; generalize zz.2.2.2.2.2.1 = oI; generalize zz.2.2.2.2.2.2.1 = C; generalize zz.2.2.2.2.2.2.2.1 = oC; generalize zz.2.2.2.2.2.2.2.2.1 = D2; generalize zz.2.2.2.2.2.2.2.2.2.1 = m₂; generalize zz.2.2.2.2.2.2.2.2.2.2.1 = h10; generalize zz.2.2.2.2.2.2.2.2.2.2.2 = tk10; clear zz
      refine pk1 ?_; generalize pick1 _ _ = E10
      intro hi hJ hv hC hx F10 N10 off10 ne10
      obtain ⟨hys2, rfl⟩ := hJ
      rw [hnw1] at N10 off10
      rw [List.getElem?_toArray] at hv
      obtain ⟨y, ty, rfl, hy⟩ := strs_at hsg hv
      k_steps
      unfold Halt
      walk_at "mine:nmg"
      k_steps
      unfold Halt
      walk_at "mine:nmc"
      k_steps
      unfold Halt
      walk_at "mine:nmo"
      k_steps
      unfold Halt
      refine hand_tells w mean mg mb hand th hh y ty (hs y (List.mem_of_getElem? hy)) _ _ _ _ _ _ _ _ _ _ _ _ _ _ _ _ _ _ (by assumption) (by assumption) (by assumption) (by assumption) (by assumption) rfl (by decide) (by decide) ?_
      intro t7 h7 tk7 F7 N7
      k_steps
      refine LCg.CompEnd.intro (by assumption) (by assumption) _ (fun p hp => hp) off10 (.inr ⟨_, by k_mem, rfl, _, rfl⟩) ⟨?_, hnw1.symm⟩
      rw [List.take_add_one, hy, List.map_append]
      exact StrsAre.snoc hys2 _ _
    · intro ys2 nw hJ
      revert hJ
      revert ys2 nw
      refine pk2 ?_; generalize pick2 _ _ = zz; generalize zz.1 = ys2; generalize zz.2 = nw; clear zz
      intro hJ
      obtain ⟨hys2, rfl⟩ := hJ
      intro D2 h10 tk10 F10 N10 off10
      rw [hnw1] at N10 off10
      rw [List.take_of_length_le (by (first | exact om10 l2 | omega))] at hys2
      have eW : (sg.map (due hand)).length = 7 := by rw [List.length_map, l2]
      k_steps
      unfold Halt
      refine line_tells w mean mg mb lab D2 lpc nab ys2.length npc vab ys2 vpc ab (sg.map (due hand)) pc hab hys2 hpc l1 eW l3 b2 b3 7 0 _ (Nat.le_refl _) (by decide) (by decide) (by decide) _ _ _ _ _ _ _ _ _ _ _ _ _ _ _ _ _ _ (by assumption) (by assumption) (by assumption) (by assumption) (by assumption) rfl (by decide) (by decide) (by walk_at "mine:cmem") (.head _) (by walk_at "mine:cmem") ?_
      intro t11 h11 tk11 F11 N11
      revert F10 N10 off10 F11 N11
      revert D2 h10 tk10 t11 h11 tk11
      refine pk6 ?_; generalize pick6 _ _ = zz; generalize zz.1 = D2; generalize zz.2.1 = h10; generalize zz.2.2.1 = tk10; generalize zz.2.2.2.1 = t11; generalize zz.2.2.2.2.1 = h11; generalize zz.2.2.2.2.2 = tk11; clear zz
      intro F10 N10 off10 F11 N11
      k_steps
      unfold Halt
      (rename Fr _ _ _ _ => F12)
      (rename News _ _ _ ((_, W.listOf #[Value.str _ _] 0) :: _) => N12)
      obtain ⟨le, hle⟩ := headIs N12
      subst hle
      refine KMa.mul (vs := [_]) (ws := List.replicate 7 _) F12 N12 ⟨_, (N12 _ (.head _)).1, rfl, _, rfl⟩ (by decide) (by decide) (by show 1 * 7 ≤ 256; decide) rfl ?_
      intro D3 h13 F13 N13 hlt13
      rename_i zv3 zv2 zv1
      revert F12 N12 zv1 F13 N13 hlt13
      revert zv3 tk zv2 le D3 h13
      refine pk6 ?_; generalize pick6 _ _ = zz; generalize zz.1 = zv3; generalize zz.2.1 = tk; generalize zz.2.2.1 = zv2; generalize zz.2.2.2.1 = le; generalize zz.2.2.2.2.1 = D3; generalize zz.2.2.2.2.2 = h13; clear zz
      intro F12 N12 _ F13 N13 hlt13
      k_steps
      unfold Halt
      refine line_tells w mean mg mb lab D D3 nab ys.length 0 vab ys _ ab (sg.map (due hand)) (List.replicate 7 (Str.ofString "")) hab hys (strs_rep _ _ 7) l1 eW List.length_replicate b2 (fun i => by rw [rep_getD]; decide) 7 0 _ (Nat.le_refl _) (by decide) (by decide) (by decide) _ _ _ _ _ _ _ _ _ _ _ _ _ _ _ _ _ _ (by assumption) (by assumption) (by assumption) (by assumption) (by assumption) rfl (by decide) (by decide) (by walk_at "mine:cmem") (by walk_at "mine:cmem") (.head _) ?_
      intro t14 h14 tk14 F14 N14
      revert F14 N14
      revert t14 h14 tk14
      refine pk3 ?_; generalize pick3 _ _ = zz; generalize zz.1 = t14; generalize zz.2.1 = h14; generalize zz.2.2 = tk14; clear zz
      intro F14 N14
      k_steps
      unfold Halt
      refine hnext _ _ D ys ys.length c7' t11 t14 ⟨rfl, rfl, fun x => x⟩ (fr_ps (by assumption) _ ?_) (newsSub (by assumption) _ ?_) hys e7 (Apart.cons hDa hap.tail.tail)
      · refine List.forall_mem_cons.mpr ⟨?_, List.forall_mem_cons.mpr ⟨?_, List.forall_mem_cons.mpr ⟨?_, List.forall_mem_nil _⟩⟩⟩
        · rfl
        · rfl
        · rfl
      · walk_at "mine:sub"
end

section
open PySem PySem.W PyProof.Rows PySem.Calls PySem.Spec
local macro_rules | `(tactic| walk_at "execs cons") => `(tactic| walk_at "mine:r10")
local macro_rules | `(tactic| walk_at "compareOp NotEq ref ref") => `(tactic| (refine Halt.mk ?_))
theorem law_2 (w : World) (mean : ExcName → Option Value) (mg mb : PySem.Str → Option Value) (line plain : PySem.Str) (tl tp : Tok) (rd rdp : RdSt) (hl1 : line.length ≤ 500) (hl2 : (stripF line).length ≤ 500) (hr1 : readSt (unitsOf (stripF line)) = some rd)
    (hp1 : plain.length ≤ 500) (hp2 : (stripF plain).length ≤ 500) (hr2 : readSt (unitsOf (stripF plain)) = some rdp) (ea : rdp.above = rd.above) (ew : rdp.words = rd.words) (h7 : rd.words.length = 7) (hok : ∀ y ∈ rd.words, PyData.strOk y = true) :
  ∀ (fa : Addr) (cd : Value) (L1 : Addr) (h₀ : Heap) (s : Shared) (u : PySem.Str → Option Value) (sv : Value) (c1 c2 c3 c4 c5 c6 c7 c8 c9 c10 : Obj) (news : List (Addr × Obj)) (Q' : Flow → Shared → Prop) (E' : Value → Shared → Prop),
    Below callerA h₀ [] h₀ → Fr h₀ L1 s.heap (kstB u [(Str.ofString "plain", .str plain tp), (Str.ofString "line", .str line tl), (Str.ofString "script", sv)]) → (Mine.hd.heap_39 w.params).In h₀ →
    News h₀ L1 s.heap (cells10 L1 c1 c2 c3 c4 c5 c6 c7 c8 c9 c10 news) → NoGen (cells10 L1 c1 c2 c3 c4 c5 c6 c7 c8 c9 c10 news) → c5.data = .cell none → c6.data = .cell none →
    Top topProg lzz mean mg mb h₀ → Apart L1 news →
    (∀ (s' : Shared) u' la lw va vw na nw c5' c6', SameX s s' → Fr h₀ L1 s'.heap (kstB u' [(Str.ofString "plain", .str plain tp), (Str.ofString "script", sv)]) →
      News h₀ L1 s'.heap (cells10 L1 c1 c2 c3 c4 c5' c6' c7 c8 c9 c10 ((lw, listOf vw.toArray nw) :: (la, listOf va.toArray na) :: news)) → IntsAre va rd.above → StrsAre vw rd.words → c5'.data = .cell (some (.ref lw)) → c6'.data = .cell (some (.ref la)) → Apart L1 ((lw, listOf vw.toArray nw) :: (la, listOf va.toArray na) :: news) →
      wpAny (model Challenge.rw_ux0024_01.row.toRowW.prog w) (callerA.deeper (envOfC (Str.ofString "law") lawScope L1 fa cd)) (execs (lawBody.drop 9) (envOfC (Str.ofString "law") lawScope L1 fa cd)) Q' E' s') →
    wpAny (model Challenge.rw_ux0024_01.row.toRowW.prog w) (callerA.deeper (envOfC (Str.ofString "law") lawScope L1 fa cd)) (execs (lawBody.drop 7) (envOfC (Str.ofString "law") lawScope L1 fa cd)) Q' E' s := by
  k_fill
  revert hl1 hl2 hr1 hp1 hp2 hr2 ea ew h7 hok
  revert lzz w mean mg mb line plain tl tp rd rdp
  refine @pk11 _ _ _ _ _ _ _ _ _ _ _  ⟨default, (aWorld 0), default, default, default, default, default, default, default, default, default⟩ _ ?_; generalize pick11 _ _ = zz; generalize zz.1 = lzz; generalize zz.2.1 = w; generalize zz.2.2.1 = mean; generalize zz.2.2.2.1 = mg; generalize zz.2.2.2.2.1 = mb; generalize zz.2.2.2.2.2.1 = line; generalize zz.2.2.2.2.2.2.1 = plain; generalize zz.2.2.2.2.2.2.2.1 = tl; generalize zz.2.2.2.2.2.2.2.2.1 = tp; generalize zz.2.2.2.2.2.2.2.2.2.1 = rd; generalize zz.2.2.2.2.2.2.2.2.2.2 = rdp; clear zz
  intro hl1 hl2 hr1 hp1 hp2 hr2 ea ew h7 hok
  intro fa cd L1 h₀ s u sv c1 c2 c3 c4 c5 c6 c7 c8 c9 c10 news Q' E' B F X N hng d5 d6 T hap hnext
  revert B F X N hng d5 d6 T hap hnext
  revert fa cd L1 h₀ s u sv c1 c2 c3 c4 c5 c6 c7 c8 c9 c10 news Q' E'
  refine pk12 (o := ⟨default, default, default, default, ({} : Shared), default, default, default, default, default, default, default⟩) ?_; generalize pick12 _ _ = zz; generalize zz.1 = fa; generalize zz.2.1 = cd; generalize zz.2.2.1 = L1; generalize zz.2.2.2.1 = h₀; generalize zz.2.2.2.2.1 = s; generalize zz.2.2.2.2.2.1 = u; generalize zz.2.2.2.2.2.2.1 = sv; generalize zz.2.2.2.2.2.2.2.1 = c1; generalize zz.2.2.2.2.2.2.2.2.1 = c2; generalize zz.2.2.2.2.2.2.2.2.2.1 = c3; generalize zz.2.2.2.2.2.2.2.2.2.2.1 = c4; generalize zz.2.2.2.2.2.2.2.2.2.2.2 = c5; clear zz
  refine pk8 ?_; generalize pick8 _ _ = zz; generalize zz.1 = c6; generalize zz.2.1 = c7; generalize zz.2.2.1 = c8; generalize zz.2.2.2.1 = c9; generalize zz.2.2.2.2.1 = c10; generalize zz.2.2.2.2.2.1 = news; generalize zz.2.2.2.2.2.2.1 = Q'; generalize zz.2.2.2.2.2.2.2 = E'; clear zz
  intro B F X N hng d5 d6 T hap hnext
  (conv in (lawBody.drop 7) => whnf)
  generalize hsco : lawScope = sco at hnext ⊢
  (have hsco' := hsco.symm; conv at hsco' in lawScope => whnf)
  subst hsco'
  dsimp only [cells10] at N hng
  dsimp only [kstB] at F
  k_steps
  unfold Halt
  refine read_tells w mean mg mb line tl hl1 hl2 rd hr1 _ _ _ _ _ _ _ _ _ _ _ _ _ _ _ _ _ _ (by assumption) (by assumption) (by assumption) (by assumption) (by assumption) hng rfl (by decide) (by decide) ?_
  intro la lw lt va vw na nw h1 tk1 G1 hG1 iva ivw F1 N1 r1 r2 r3
  revert hG1 iva ivw F1 N1 r1 r2 r3
  revert la lw lt va vw na nw h1 tk1 G1
  refine pk10 ?_; generalize pick10 _ _ = zz; generalize zz.1 = la; generalize zz.2.1 = lw; generalize zz.2.2.1 = lt; generalize zz.2.2.2.1 = va; generalize zz.2.2.2.2.1 = vw; generalize zz.2.2.2.2.2.1 = na; generalize zz.2.2.2.2.2.2.1 = nw; generalize zz.2.2.2.2.2.2.2.1 = h1; generalize zz.2.2.2.2.2.2.2.2.1 = tk1; generalize zz.2.2.2.2.2.2.2.2.2 = G1; clear zz
  intro hG1 iva ivw F1 N1 r1 r2 r3
  have z0 : @LT.lt Nat _ (L1 + 1 + 1 + 1 + 1 + 1 + 1 + 1 + 1 + 1 + 1) la := r1 _ (.head _)
  have z2 : @LT.lt Nat _ la lw := r2
  have z3 : @LT.lt Nat _ lw lt := r3
  clear r2 r3
  k_steps
  unfold Halt
  walk_at "mine:unpk"
  k_steps
  unfold Halt
  (rename News _ _ _ _ => N2)
  refine len_list ⟨_, (N2 (lw, listOf vw.toArray nw) (by walk_at "mine:cmem")).1, rfl, _, rfl⟩ (by rw [List.size_toArray, strs_len ivw, h7]; decide) ?_
  rw [show ((vw.toArray.size : Nat) : Int) = 7 by rw [List.size_toArray, strs_len ivw, h7]; rfl]
  k_steps
  unfold Halt
  (rename News _ _ _ _ => N3)
  (rename Obj.data _ = .cell (some (.ref la)) => e6)
  (rename Obj.data _ = .cell (some (.ref lw)) => e5)
  obtain ⟨c5', h5⟩ := objOf e5
  obtain ⟨c6', h6⟩ := objOf e6
  subst h5 h6
  have hng2 := noGen_more (c5 := c5) (c6 := c6) (c5' := c5') (c6' := c6') (lt := lt) (la := la) (lw := lw) (va := va.toArray) (vw := vw.toArray) (vt := #[.ref la, .ref lw]) (na := na) (nw := nw) hng e5 e6
  refine read_tells w mean mg mb plain tp hp1 hp2 rdp hr2 _ _ _ _ _ _ _ _ _ _ _ _ _ _ _ _ _ _ (by assumption) (by assumption) (by assumption) (by assumption) (by assumption) hng2 rfl (by decide) (by decide) ?_
  intro la2 lw2 lt2 va2 vw2 na2 nw2 h4 tk4 G4 hG4 iva2 ivw2 F4 N4 r4 q2 q3
  rename_i zv1 zv0
  revert zv0 e5 e6 N3 hng2 hG4 iva2 ivw2 F4 N4 r4 q2 q3
  revert zv1 tk c5' c6' la2 lw2 lt2 va2 vw2 na2 nw2 h4 tk4 G4
  refine pk12 ?_; generalize pick12 _ _ = zz; generalize zz.1 = zv1; generalize zz.2.1 = tk; generalize zz.2.2.1 = c5'; generalize zz.2.2.2.1 = c6'; generalize zz.2.2.2.2.1 = la2; generalize zz.2.2.2.2.2.1 = lw2; generalize zz.2.2.2.2.2.2.1 = lt2; generalize zz.2.2.2.2.2.2.2.1 = va2; generalize zz.2.2.2.2.2.2.2.2.1 = vw2; generalize zz.2.2.2.2.2.2.2.2.2.1 = na2; generalize zz.2.2.2.2.2.2.2.2.2.2.1 = nw2; generalize zz.2.2.2.2.2.2.2.2.2.2.2 = h4; clear zz
  refine pk2 ?_; generalize pick2 _ _ = zz; generalize zz.1 = tk4; generalize zz.2 = G4; clear zz
  intro _ e5 e6 N3 hng2 hG4 iva2 ivw2 F4 N4 r4 q2 q3
  k_steps
  unfold Halt
  (rename News _ _ _ _ => N5)
  rw [ea] at iva2
  rw [ew] at ivw2
  refine pair_ne N5 (.tail _ (.head _)) (.tail _ (.tail _ (.tail _ (.head _)))) (.tail _ (.tail _ (.head _))) (.head _) (.tail _ (.tail _ (.tail _ (.tail _ (.tail _ (.tail _ (.head _))))))) (.tail _ (.tail _ (.tail _ (.tail _ (.tail _ (.head _)))))) iva2 ivw2 iva ivw hok (by exact Nat.le_of_ble_eq_true rfl) ?_
  k_steps
  unfold Halt
  refine hnext _ _ la lw va vw na nw c5' c6' ⟨rfl, rfl, fun x => hG4 (hG1 x)⟩ (fr_ps (by assumption) _ ?_) (newsSub (by assumption) _ ?_) iva ivw e5 e6 (Apart.cons (.inr ?_) (Apart.cons (.inr ?_) hap))
  · refine List.forall_mem_cons.mpr ⟨?_, List.forall_mem_cons.mpr ⟨?_, List.forall_mem_nil _⟩⟩
    · rfl
    · rfl
  · walk_at "mine:sub"
  · show @LT.lt Nat _ _ _; (first | exact om135 z0 z2 | omega)
  · show @LT.lt Nat _ _ _; (first | exact om132 z0 | omega)
end

section
open PySem PySem.W PyProof.Rows PySem.Calls PySem.Spec
local macro_rules | `(tactic| walk_at "execs cons") => `(tactic| walk_at "mine:r9")
local macro_rules | `(tactic| walk_at "compareOp NotEq ref ref") => `(tactic| (refine Halt.mk ?_))
local macro_rules | `(tactic| walk_at "binaryOp Add str str") => `(tactic| (refine Halt.mk ?_))
local macro_rules | `(tactic| walk_at "call type:list") => `(tactic| (refine Halt.mk ?_))
theorem law_3 (w : World) (mean : ExcName → Option Value) (mg mb : PySem.Str → Option Value) (plain : PySem.Str) (tp : Tok) (hp1 : plain.length ≤ 400) (hst : stripF (plain ++ Str.ofString "\"\\") = plain ++ Str.ofString "\"\\") (us0 : List (Nat × PySem.Str))
    (hun : unitsOf (plain ++ Str.ofString "\"\\") = us0 ++ [(plain.length, Str.ofString "\""), (plain.length + 1, Str.ofString "\\")]) :
  ∀ (fa : Addr) (cd : Value) (L1 : Addr) (h₀ : Heap) (s : Shared) (u : PySem.Str → Option Value) (sv : Value) (c1 c2 c3 c4 c5 c6 c7 c8 c9 c10 : Obj) (news : List (Addr × Obj)) (Q' : Flow → Shared → Prop) (E' : Value → Shared → Prop),
    Below callerA h₀ [] h₀ → Fr h₀ L1 s.heap (kstB u [(Str.ofString "plain", .str plain tp), (Str.ofString "script", sv)]) → (Mine.hd.heap_39 w.params).In h₀ →
    News h₀ L1 s.heap (cells10 L1 c1 c2 c3 c4 c5 c6 c7 c8 c9 c10 news) → NoGen (cells10 L1 c1 c2 c3 c4 c5 c6 c7 c8 c9 c10 news) →
    Top topProg lzz mean mg mb h₀ → Apart L1 news →
    (∀ (s' : Shared) u', SameX s s' → Fr h₀ L1 s'.heap (kstB u' [(Str.ofString "plain", .str plain tp), (Str.ofString "script", sv)]) → News h₀ L1 s'.heap (cells10 L1 c1 c2 c3 c4 c5 c6 c7 c8 c9 c10 news) →
      wpAny (model Challenge.rw_ux0024_01.row.toRowW.prog w) (callerA.deeper (envOfC (Str.ofString "law") lawScope L1 fa cd)) (execs (lawBody.drop 10) (envOfC (Str.ofString "law") lawScope L1 fa cd)) Q' E' s') →
    wpAny (model Challenge.rw_ux0024_01.row.toRowW.prog w) (callerA.deeper (envOfC (Str.ofString "law") lawScope L1 fa cd)) (execs (lawBody.drop 9) (envOfC (Str.ofString "law") lawScope L1 fa cd)) Q' E' s := by
  k_fill
  revert hp1 hst hun
  revert lzz w mean mg mb plain tp us0
  refine @pk8 _ _ _ _ _ _ _ _  ⟨default, (aWorld 0), default, default, default, default, default, default⟩ _ ?_; generalize pick8 _ _ = zz; generalize zz.1 = lzz; generalize zz.2.1 = w; generalize zz.2.2.1 = mean; generalize zz.2.2.2.1 = mg; generalize zz.2.2.2.2.1 = mb; generalize zz.2.2.2.2.2.1 = plain; generalize zz.2.2.2.2.2.2.1 = tp; generalize zz.2.2.2.2.2.2.2 = us0; clear zz
  intro hp1 hst hun
  intro fa cd L1 h₀ s u sv c1 c2 c3 c4 c5 c6 c7 c8 c9 c10 news Q' E' B F X N hng T hap hnext
  revert B F X N hng T hap hnext
  revert fa cd L1 h₀ s u sv c1 c2 c3 c4 c5 c6 c7 c8 c9 c10 news Q' E'
  refine pk12 (o := ⟨default, default, default, default, ({} : Shared), default, default, default, default, default, default, default⟩) ?_; generalize pick12 _ _ = zz; generalize zz.1 = fa; generalize zz.2.1 = cd; generalize zz.2.2.1 = L1; generalize zz.2.2.2.1 = h₀; generalize zz.2.2.2.2.1 = s; generalize zz.2.2.2.2.2.1 = u; generalize zz.2.2.2.2.2.2.1 = sv; generalize zz.2.2.2.2.2.2.2.1 = c1; generalize zz.2.2.2.2.2.2.2.2.1 = c2; generalize zz.2.2.2.2.2.2.2.2.2.1 = c3; generalize zz.2.2.2.2.2.2.2.2.2.2.1 = c4; generalize zz.2.2.2.2.2.2.2.2.2.2.2 = c5; clear zz
  refine pk8 ?_; generalize pick8 _ _ = zz; generalize zz.1 = c6; generalize zz.2.1 = c7; generalize zz.2.2.1 = c8; generalize zz.2.2.2.1 = c9; generalize zz.2.2.2.2.1 = c10; generalize zz.2.2.2.2.2.1 = news; generalize zz.2.2.2.2.2.2.1 = Q'; generalize zz.2.2.2.2.2.2.2 = E'; clear zz
  intro B F X N hng T hap hnext
  (conv in (lawBody.drop 9) => whnf)
  generalize hsco : lawScope = sco at hnext ⊢
  (have hsco' := hsco.symm; conv at hsco' in lawScope => whnf)
  subst hsco'
  dsimp only [cells10] at N hng
  dsimp only [kstB] at F
  have e2 : (Str.ofString "\"\\").length = 2 := by decide
  have hz := size_is
  k_steps
  unfold Halt
  refine PyProof.Rows.add_str ?_ (by rw [hz]; (first | exact om570 hp1 e2 | omega))
  intro _ _
  k_steps
  unfold Halt
  refine strip_tells w mean mg mb (plain ++ Str.ofString "\"\\") _ (by rw [Str.length_append]; (first | exact om571 hp1 e2 | omega)) _ _ _ _ _ _ _ _ _ _ _ _ _ _ _ _ _ _ (by assumption) (by assumption) (by assumption) (by assumption) (by assumption) hng rfl (by decide) (by decide) ?_
  intro t1 h1 tk1 G1 hG1 F1 N1
  rename_i zv0
  revert hG1 F1 N1
  revert zv0 t1 h1 tk1 G1
  refine pk5 ?_; generalize pick5 _ _ = zz; generalize zz.1 = zv0; generalize zz.2.1 = t1; generalize zz.2.2.1 = h1; generalize zz.2.2.2.1 = tk1; generalize zz.2.2.2.2 = G1; clear zz
  intro hG1 F1 N1
  rw [hst]
  k_steps
  unfold Halt
  refine iter_tells w mean mg mb (plain ++ Str.ofString "\"\\") _ _ _ _ _ _ _ _ _ _ _ _ _ _ _ _ _ _ _ (by assumption) (by assumption) (by assumption) (by assumption) (by assumption) rfl (by decide) (by decide) ?_
  intro I Lg nm qn h2 tk2 oL gs F2 N2 r1 r2 hb hG2
  revert F2 N2 r1 r2 hb hG2
  revert I Lg nm qn h2 tk2 oL gs
  refine pk8 (o := ⟨default, default, default, default, default, default, default, .finished⟩) ?_; generalize pick8 _ _ = zz; generalize zz.1 = I; generalize zz.2.1 = Lg; generalize zz.2.2.1 = nm; generalize zz.2.2.2.1 = qn; generalize zz.2.2.2.2.1 = h2; generalize zz.2.2.2.2.2.1 = tk2; generalize zz.2.2.2.2.2.2.1 = oL; generalize zz.2.2.2.2.2.2.2 = gs; clear zz
  intro F2 N2 r1 r2 hb hG2
  have z0 : @LT.lt Nat _ (L1 + 1 + 1 + 1 + 1 + 1 + 1 + 1 + 1 + 1 + 1) Lg := r1 _ (.head _)
  k_steps
  unfold Halt
  have hgz : ({ heap := h2, gens := G1.push gs, drawn := s.drawn, toks := tk2, os := s.os } : Shared).gens[G1.size]? = some gs := by simp
  refine list_led (gs := gs) (us := unitsOf (plain ++ Str.ofString "\"\\")) rfl (T.nolimit) (by exact Nat.le_of_ble_eq_true rfl) F2 N2 hng (fun p hp => Nat.ne_of_lt (r1 p hp)) (Nat.ne_of_gt r2) hgz (hG2 _ rfl) ?_ ?_
  · have := unitsOf_len (plain ++ Str.ofString "\"\\")
    rw [Str.length_append] at this
    rw [hz]
    (first | exact om572 hp1 e2 this | omega)
  intro D vs n h3 tk3 F3 N3 hvl hvs hD
  revert F3 N3 hvl hvs hD
  revert D vs n h3 tk3
  refine pk5 ?_; generalize pick5 _ _ = zz; generalize zz.1 = D; generalize zz.2.1 = vs; generalize zz.2.2.1 = n; generalize zz.2.2.2.1 = h3; generalize zz.2.2.2.2 = tk3; clear zz
  intro F3 N3 hvl hvs hD
  rw [hun] at hvl hvs
  have hvl2 : vs.length = us0.length + 2 := by rw [hvl]; simp
  obtain ⟨T1, tp1, tu1, v1, g1, n1, b1⟩ := hvs us0.length plain.length (Str.ofString "\"") (by simp)
  obtain ⟨T2, tp2, tu2, v2, g2, n2, b2⟩ := hvs (us0.length + 1) (plain.length + 1) (Str.ofString "\\") (by simp)
  have hvs2 := last_two hvl2 v1 v2
  rw [hvs2] at N3
  have N3' := News_more (News_more N3 g2 n2 b2) g1 n1 b1
  k_steps
  unfold Halt
  refine slice_led F3 N3' ⟨_, (N3 _ (.head _)).1, rfl, _, rfl⟩ (.int _ _) .none (pick_last2 _ _ _) ?_ (by with_unfolding_all rfl) ?_
  rotate_left
  · have := unitsOf_len (plain ++ Str.ofString "\"\\")
    rw [Str.length_append, hun] at this
    rw [hz, List.size_toArray, ← hvs2, hvl]
    (first | exact om573 hp1 e2 hvl hvl2 this | omega)
  intro D2 h4 F4 N4 hD2
  revert v1 g1 n1 b1 N3 v2 g2 n2 b2 hvs2 N3' F4 N4 hD2
  revert T1 tp1 tu1 T2 tp2 tu2 D2 h4
  refine pk8 ?_; generalize pick8 _ _ = zz; generalize zz.1 = T1; generalize zz.2.1 = tp1; generalize zz.2.2.1 = tu1; generalize zz.2.2.2.1 = T2; generalize zz.2.2.2.2.1 = tp2; generalize zz.2.2.2.2.2.1 = tu2; generalize zz.2.2.2.2.2.2.1 = D2; generalize zz.2.2.2.2.2.2.2 = h4; clear zz
  intro v1 g1 n1 b1 N3 v2 g2 n2 b2 hvs2 N3' F4 N4 hD2
  k_steps
  unfold Halt
  (rename News _ _ _ _ => N5)
  refine two_ne N5 (.tail _ (.tail _ (.tail _ (.head _)))) (.tail _ (.tail _ (.tail _ (.tail _ (.head _))))) (.tail _ (.tail _ (.tail _ (.tail _ (.tail _ (.head _)))))) (.head _) (.tail _ (.tail _ (.head _))) (.tail _ (.head _)) rfl (by (first | exact om574 | omega)) (by decide +kernel) (by decide +kernel) (by exact Nat.le_of_ble_eq_true rfl) ?_
  k_steps
  unfold Halt
  refine hnext _ _ ⟨rfl, rfl, fun x => ?_⟩ (fr_ps (by assumption) _ ?_) (newsSub (by assumption) _ ?_)
  · dsimp only
    exact bare_end (hG1 x) hb
  · refine List.forall_mem_cons.mpr ⟨?_, List.forall_mem_cons.mpr ⟨?_, List.forall_mem_nil _⟩⟩
    · rfl
    · rfl
  · walk_at "mine:sub"
end

section
open PySem PySem.W PyProof.Rows PySem.Calls PySem.Spec
local macro_rules | `(tactic| walk_at "execs cons") => `(tactic| walk_at "mine:r11")
local macro_rules | `(tactic| walk_at "compareOp NotEq ref ref") => `(tactic| (refine Halt.mk ?_))
local macro_rules | `(tactic| walk_at "compareOp NotIn int ref") => `(tactic| (refine Halt.mk ?_))
local macro_rules | `(tactic| walk_at "compareOp In int ref") => `(tactic| (refine Halt.mk ?_))
local macro_rules | `(tactic| walk_at "binaryOp Add int int") => `(tactic| (refine Halt.mk ?_))
theorem law_4 (w : World) (mean : ExcName → Option Value) (mg mb : PySem.Str → Option Value) (la lw : Addr) (va vw : List Value) (na nw : Nat) (ab : List Int) (wd : List PySem.Str) (hab : IntsAre va ab) (hwd : StrsAre vw wd)
    (e1 : ab.length = 7) (e2 : wd.length = 7) (hw : ∀ i : Nat, (wd.getD i (Str.ofString "")).length ≤ 6) (ha : ∀ i : Nat, i < 7 → ab.getD i 0 < i) (f : Int → PySem.Str) (hf : f = fun i => (wayL ab wd 7).getD i.toNat (Str.ofString ""))
    (hcut : ∀ i, i < 7 → ∀ j : Nat, j < (rowL f i).length → decide ((f (nodes7.getD i 0)).cps.toList < (f ((rowL f i).getD j 0)).cps.toList) = decide (cutF f (rowL f i) (nodes7.getD i 0) ≤ j)) :
  ∀ (fa : Addr) (cd : Value) (L1 : Addr) (h₀ : Heap) (s : Shared) (u : PySem.Str → Option Value) (pv sv : Value) (c1 c2 c3 c4 c5 c6 c7 c8 c9 c10 : Obj) (news : List (Addr × Obj)) (Q' : Flow → Shared → Prop) (E' : Value → Shared → Prop),
    Below callerA h₀ [] h₀ → Fr h₀ L1 s.heap (kstB u [(Str.ofString "plain", pv), (Str.ofString "script", sv)]) → (Mine.hd.heap_39 w.params).In h₀ → CodeHd h₀ 202 198 →
    News h₀ L1 s.heap (cells10 L1 c1 c2 c3 c4 c5 c6 c7 c8 c9 c10 ((lw, listOf vw.toArray nw) :: (la, listOf va.toArray na) :: (198, tabObj #[]) :: news)) → c4.data = .cell none → c5.data = .cell (some (.ref lw)) → c6.data = .cell (some (.ref la)) →
    Top topProg lzz mean mg mb h₀ → Apart L1 ((lw, listOf vw.toArray nw) :: (la, listOf va.toArray na) :: (198, tabObj #[]) :: news) → (∀ p ∈ ((lw, listOf vw.toArray nw) :: (la, listOf va.toArray na) :: news), p.1 ≠ 198) → @LT.lt Nat _ 198 (L1 + 1) →
    (∀ (ps : Array Value) (s' : Shared) u' (lt lr ly : Addr) (vt vr vy : List Value) nt nr ny c4' ex, SameX s s' → Fr h₀ L1 s'.heap (kstB u' [(Str.ofString "ways", .ref ly), (Str.ofString "row", .ref lr), (Str.ofString "plain", pv), (Str.ofString "script", sv)]) →
      News h₀ L1 s'.heap (cells10 L1 c1 c2 c3 c4' c5 c6 c7 c8 c9 c10 ((lt, listOf vt.toArray nt) :: (lr, listOf vr.toArray nr) :: (ly, listOf vy.toArray ny) :: (ex ++ ((198, tabObj ps) :: news)))) → c4'.data = .cell (some (.ref lt)) →
      IntsAre vr (rowL f 7) → StrsAre vy (wayL ab wd 7) → vt.length = 7 → (∀ (j : Nat) (r : TRow), ((rowL f 7).map (tabRow ab wd))[j]? = some r → ∃ a t, vt[j]? = some (Value.ref a) ∧ (a, tupObj #[.str r.1 t, .bool r.2.1, .bool r.2.2]) ∈ ex) →
      Apart L1 ((lt, listOf vt.toArray nt) :: (lr, listOf vr.toArray nr) :: (ly, listOf vy.toArray ny) :: (ex ++ ((198, tabObj ps) :: news))) →
      wpAny (model Challenge.rw_ux0024_01.row.toRowW.prog w) (callerA.deeper (envOfC (Str.ofString "law") lawScope L1 fa cd)) (execs (lawBody.drop 13) (envOfC (Str.ofString "law") lawScope L1 fa cd)) Q' E' s') →
    wpAny (model Challenge.rw_ux0024_01.row.toRowW.prog w) (callerA.deeper (envOfC (Str.ofString "law") lawScope L1 fa cd)) (execs (lawBody.drop 10) (envOfC (Str.ofString "law") lawScope L1 fa cd)) Q' E' s := by
  k_fill
  revert hab hwd e1 e2 hw ha hf hcut
  revert lzz w mean mg mb la lw va vw na nw ab wd f
  refine @pk12 _ _ _ _ _ _ _ _ _ _ _ _  ⟨default, (aWorld 0), default, default, default, default, default, default, default, default, default, default⟩ _ ?_; generalize pick12 _ _ = zz; generalize zz.1 = lzz; generalize zz.2.1 = w; generalize zz.2.2.1 = mean; generalize zz.2.2.2.1 = mg; generalize zz.2.2.2.2.1 = mb; generalize zz.2.2.2.2.2.1 = la; generalize zz.2.2.2.2.2.2.1 = lw; generalize zz.2.2.2.2.2.2.2.1 = va; generalize zz.2.2.2.2.2.2.2.2.1 = vw; generalize zz.2.2.2.2.2.2.2.2.2.1 = na; generalize zz.2.2.2.2.2.2.2.2.2.2.1 = nw; generalize zz.2.2.2.2.2.2.2.2.2.2.2 = ab; clear zz
  refine @pk2 _ _ inferInstance _ ?_; generalize pick2 _ _ = zz; generalize zz.1 = wd; generalize zz.2 = f; clear zz
  intro hab hwd e1 e2 hw ha hf hcut
  intro fa cd L1 h₀ s u pv sv c1 c2 c3 c4 c5 c6 c7 c8 c9 c10 news Q' E' B F X C202 N d4 d5 d6 T hap h198 hlt hnext
  revert B F X C202 N d4 d5 d6 T hap h198 hlt hnext
  revert fa cd L1 h₀ s u pv sv c1 c2 c3 c4 c5 c6 c7 c8 c9 c10 news Q' E'
  refine pk12 (o := ⟨default, default, default, default, ({} : Shared), default, default, default, default, default, default, default⟩) ?_; generalize pick12 _ _ = zz; generalize zz.1 = fa; generalize zz.2.1 = cd; generalize zz.2.2.1 = L1; generalize zz.2.2.2.1 = h₀; generalize zz.2.2.2.2.1 = s; generalize zz.2.2.2.2.2.1 = u; generalize zz.2.2.2.2.2.2.1 = pv; generalize zz.2.2.2.2.2.2.2.1 = sv; generalize zz.2.2.2.2.2.2.2.2.1 = c1; generalize zz.2.2.2.2.2.2.2.2.2.1 = c2; generalize zz.2.2.2.2.2.2.2.2.2.2.1 = c3; generalize zz.2.2.2.2.2.2.2.2.2.2.2 = c4; clear zz
  refine pk9 ?_; generalize pick9 _ _ = zz; generalize zz.1 = c5; generalize zz.2.1 = c6; generalize zz.2.2.1 = c7; generalize zz.2.2.2.1 = c8; generalize zz.2.2.2.2.1 = c9; generalize zz.2.2.2.2.2.1 = c10; generalize zz.2.2.2.2.2.2.1 = news; generalize zz.2.2.2.2.2.2.2.1 = Q'; generalize zz.2.2.2.2.2.2.2.2 = E'; clear zz
  intro B F X C202 N d4 d5 d6 T hap h198 hlt hnext
  (conv in (lawBody.drop 10) => whnf)
  generalize hsco : lawScope = sco at hnext ⊢
  (have hsco' := hsco.symm; conv at hsco' in lawScope => whnf)
  subst hsco'
  dsimp only [cells10] at N
  dsimp only [kstB] at F
  have lrow := rowL_length f 7
  have rrow := rowL_range f 7 (Nat.le_refl _)
  obtain ⟨row, hrow⟩ : ∃ row, row = rowL f 7 := ⟨_, rfl⟩
  obtain ⟨ways, hways⟩ : ∃ ways, ways = wayL ab wd 7 := ⟨_, rfl⟩
  obtain ⟨tb, htbe⟩ : ∃ tb, tb = row.map (tabRow ab wd) := ⟨_, rfl⟩
  have htb0 : ∀ (i kn : Nat) (r : TRow), i < 7 → row.getD i 0 = (kn : Int) → tb[i]? = some r → r = tabRow ab wd (kn : Int) := by
    intro i kn r hi hk hr
    rw [htbe, List.getElem?_map] at hr
    rw [← hrow] at lrow
    rw [List.getD_eq_getElem?_getD, List.getElem?_eq_getElem (by (first | exact om48 lrow hi | omega))] at hk
    rw [List.getElem?_eq_getElem (by (first | exact om48 lrow hi | omega))] at hr
    rw [← Option.some.inj hr]
    exact congrArg _ hk
  rw [← hrow] at lrow rrow
  have hld := Halt.of (And.intro hrow (And.intro hways htbe))
  clear hrow hways htbe
  have p1 := hap.head
  have p2 := hap.tail.head
  have pn := hap.tail.tail.tail
  have hnx : ∀ p ∈ cells10 L1 c1 c2 c3 c4 c5 c6 c7 c8 c9 c10 ((lw, listOf vw.toArray nw) :: (la, listOf va.toArray na) :: news), p.1 ≠ 198 := cells_ne (fun p hp => h198 p hp) hlt
  replace N := news_198 N
  dsimp only [cells10] at N
  have hold : Halt (CodeHd h₀ 202 198 ∧ ∀ p ∈ cells10 L1 c1 c2 c3 c4 c5 c6 c7 c8 c9 c10 ((lw, listOf vw.toArray nw) :: (la, listOf va.toArray na) :: news), p.1 ≠ 198) := Halt.of ⟨C202, hnx⟩
  clear C202 h198 hnx
  k_steps
  unfold Halt at hold ⊢
  obtain ⟨C202, hnx⟩ := hold
  refine row_tells w mean mg mb la lw va vw na nw ab wd hab hwd e1 e2 hw ha f hf hcut _ _ _ _ _ _ _ _ _ _ _ _ _ _ _ _ _ _ (by assumption) (by assumption) (by assumption) N (by assumption) rfl (by decide) (by decide) C202 (by walk_at "mine:cmem") (by walk_at "mine:cmem") hnx ?_
  intro ly lr lg lt vy vr ny nr ng ps h1 tk1 iy ir F1 N1 r1 r2 r3 r4
  revert iy ir F1 N1 r1 r2 r3 r4
  revert ly lr lg lt vy vr ny nr ng ps h1 tk1
  refine pk12 ?_; generalize pick12 _ _ = zz; generalize zz.1 = ly; generalize zz.2.1 = lr; generalize zz.2.2.1 = lg; generalize zz.2.2.2.1 = lt; generalize zz.2.2.2.2.1 = vy; generalize zz.2.2.2.2.2.1 = vr; generalize zz.2.2.2.2.2.2.1 = ny; generalize zz.2.2.2.2.2.2.2.1 = nr; generalize zz.2.2.2.2.2.2.2.2.1 = ng; generalize zz.2.2.2.2.2.2.2.2.2.1 = ps; generalize zz.2.2.2.2.2.2.2.2.2.2.1 = h1; generalize zz.2.2.2.2.2.2.2.2.2.2.2 = tk1; clear zz
  intro iy ir F1 N1 r1 r2 r3 r4
  unfold Halt at hld
  rw [← hld.1] at ir
  rw [← hld.2.1] at iy
  have hld := Halt.of hld
  have z0 : @LT.lt Nat _ (L1 + 1 + 1 + 1 + 1 + 1 + 1 + 1 + 1 + 1 + 1) ly := r1 _ (.head _)
  have z1 : @LT.lt Nat _ ly lr := r2
  have z2 : @LT.lt Nat _ lr lg := r3
  have z3 : @LT.lt Nat _ lg lt := r4
  clear r2 r3 r4 C202 hnx
  obtain ⟨nw8, hnw8⟩ : ∃ x, x = ((198, tabObj ps) : Addr × Obj) :: news := ⟨_, rfl⟩
  replace hnext := hnext ps
  rw [← hnw8] at hnext
  replace pn : Apart L1 nw8 := by
    rw [hnw8]
    exact Apart.cons (.inl hlt) pn
  have hnw8 := Halt.of hnw8
  k_steps
  unfold Halt
  (try dsimp only [cells10] at N1)
  walk_at "mine:unpk"
  k_steps
  unfold Halt
  (rename Fr _ _ _ _ => F2)
  (rename News _ _ _ ((_, W.listOf #[Value.none] 0) :: _) => N2)
  obtain ⟨le, hle⟩ := headIs N2
  subst hle
  refine KMa.mul (vs := [_]) (ws := List.replicate 7 _) F2 N2 ⟨_, (N2 _ (.head _)).1, rfl, _, rfl⟩ (by decide) (by decide) (by show 1 * 7 ≤ 256; decide) rfl ?_
  intro D3 h3 F3 N3 hlt3
  rename_i zv2 zv1 zv0
  revert F2 N2 zv0 F3 N3 hlt3
  revert zv2 tk zv1 le D3 h3
  refine pk6 ?_; generalize pick6 _ _ = zz; generalize zz.1 = zv2; generalize zz.2.1 = tk; generalize zz.2.2.1 = zv1; generalize zz.2.2.2.1 = le; generalize zz.2.2.2.2.1 = D3; generalize zz.2.2.2.2.2 = h3; clear zz
  intro F2 N2 _ F3 N3 hlt3
  k_steps
  unfold Halt
  refine nones_ne N3 (by walk_at "mine:cmem") (.head _) (by exact Nat.le_of_ble_eq_true rfl) ?_
  k_steps
  unfold Halt
  refine wpAny_Assign_Name ?_ (by with_unfolding_all rfl)
  k_steps
  unfold Halt
  (rename Fr _ _ _ _ => F4)
  refine LCg.ListComp_U (F₀ := F4) (by with_unfolding_all rfl) (by decide) (by rfl) (by decide) (by rfl) ?_
  k_steps
  unfold Halt
  (rename News _ _ _ _ => N5a)
  have N5 : News h₀ L1 _ (cells10 L1 c1 c2 c3 c4 c5 c6 c7 c8 c9 c10 ((lr, listOf vr.toArray nr) :: (ly, listOf vy.toArray ny) :: (lw, listOf vw.toArray nw) :: (la, listOf va.toArray na) :: nw8)) := newsSub N5a _ (by
    intro p hp
    unfold Halt at hnw8
    rw [hnw8] at hp
    (revert p; walk_at "mine:sub"))
  dsimp only [cells10] at N5
  have lir := ints_len ir
  rw [lrow] at lir
  refine LCg.CompSrc.ledger rfl (by assumption) N5 (by walk_at "mine:cmem") (by rw [List.size_toArray, lir]; decide) ?_
  intro g
  rename_i zv3 _ _ _ _ _
  revert zv3 hnext pn hnw8 N5
  revert nw8 tk g
  refine pk3 ?_; generalize pick3 _ _ = zz; generalize zz.1 = nw8; generalize zz.2.1 = tk; generalize zz.2.2 = g; clear zz
  intro _ hnext pn hnw8 N5
  rw [List.size_toArray, lir]
  refine compU_inv (fun i ys nw' => ∃ ex, nw' = cells10 L1 c1 c2 c3 c4 c5 c6 c7 c8 c9 c10 ((lr, listOf vr.toArray nr) :: (ly, listOf vy.toArray ny) :: (lw, listOf vw.toArray nw) :: (la, listOf va.toArray na) :: (ex ++ nw8)) ∧ ys.length = i ∧ Apart L1 ex ∧ ∀ (j : Nat) (r : TRow), j < i → tb[j]? = some r → ∃ a t, ys[j]? = some (Value.ref a) ∧ (a, tupObj #[.str r.1 t, .bool r.2.1, .bool r.2.2]) ∈ ex) ⟨[], rfl, rfl, Apart.nil, fun j r hj => absurd hj (Nat.not_lt_zero _)⟩ ?_ ?_
  · intro i ys nw' v I oI C oC D m₂ h6 tk6 E6 hi hJ hv hC hx F6 N6 off6 ne6
    rename_i zv4 _ _ _ _ _ _
    revert rrow lrow htb0 zv4 iy ir hld hi hJ hv hC hx F6 N6 off6 ne6
    revert row ways tb i ys nw' v I oI C oC D m₂ h6 tk6 E6
    refine pk12 ?_; generalize pick12 _ _ = zz; generalize zz.1 = row; generalize zz.2.1 = ways; generalize zz.2.2.1 = tb; generalize zz.2.2.2.1 = i; generalize zz.2.2.2.2.1 = ys; generalize zz.2.2.2.2.2.1 = nw'; generalize zz.2.2.2.2.2.2.1 = v; generalize zz.2.2.2.2.2.2.2.1 = I; generalize zz.2.2.2.2.2.2.2.2.1 = oI; generalize zz.2.2.2.2.2.2.2.2.2.1 = C; generalize zz.2.2.2.2.2.2.2.2.2.2.1 = oC; generalize zz.2.2.2.2.2.2.2.2.2.2.2 = D; clear zz
    refine pk4 ?_; generalize pick4 _ _ = zz; generalize zz.1 = m₂; generalize zz.2.1 = h6; generalize zz.2.2.1 = tk6; generalize zz.2.2.2 = E6; clear zz
    intro rrow lrow htb0 _ iy ir hld hi hJ hv hC hx F6 N6 off6 ne6
    obtain ⟨ex, rfl, hyl, hex, htb⟩ := hJ
    rw [List.getElem?_toArray] at hv
    have hrr := rrow i (by rw [lrow]; exact hi)
    obtain ⟨kn, hkn⟩ : ∃ kn : Nat, row.getD i 0 = (kn : Int) := ⟨(row.getD i 0).toNat, by (first | exact om127 hrr | omega)⟩
    obtain ⟨tv, hv2⟩ := ints_getD ir (i := i) (by rw [lrow]; exact hi)
    rw [hkn] at hv2 hrr
    rw [hv] at hv2
    have hv3 := Option.some.inj hv2
    subst hv3
    clear hv2
    have off7 := off6.mem
    have lva := ints_len hab
    dsimp only [cells10] at N6
    k_steps
    unfold Halt
    walk_at "mine:nmc"
    k_steps
    unfold Halt
    walk_at "mine:nmo"
    k_steps
    unfold Halt
    refine item_strs (by assumption) (by walk_at "mine:cmem") hwd (by (first | exact om128 hrr hkn | omega)) (by (first | exact om129 e2 hrr hkn | omega)) (by (first | exact om130 hrr hkn | omega)) ?_ (by with_unfolding_all rfl)
    intro t7
    revert hrr hkn hv hx
    revert kn tv t7
    refine pk3 ?_; generalize pick3 _ _ = zz; generalize zz.1 = kn; generalize zz.2.1 = tv; generalize zz.2.2 = t7; clear zz
    intro hrr hkn hv hx
    k_steps
    unfold Halt
    walk_at "mine:nmc"
    k_steps
    unfold Halt
    walk_at "mine:nmo"
    k_steps
    unfold Halt
    refine item_ints (by assumption) (by walk_at "mine:cmem") hab (by (first | exact om128 hrr hkn | omega)) (by (first | exact om129 e1 hrr hkn | omega)) (by (first | exact om130 hrr hkn | omega)) ?_ (by with_unfolding_all rfl)
    intro t8
    revert t8
    refine pk1 ?_; generalize pick1 _ _ = t8
    k_steps
    unfold Halt
    walk_at "mine:nmc"
    k_steps
    unfold Halt
    walk_at "mine:nmo"
    k_steps
    unfold Halt
    refine PyProof.Rows.add_int ?_
    k_steps
    unfold Halt
    refine slice_led (zs := va.drop (kn + 1)) F6 N6 ⟨_, (N6 (la, listOf va.toArray na) (by walk_at "mine:cmem")).1, rfl, _, rfl⟩ (.int _ _) .none (by have h := pick_from va (a := kn + 1) (by (first | exact om131 e1 lva hrr hkn | omega)); rw [Int.natCast_add] at h; exact h) ?_ (by with_unfolding_all rfl) (by rw [List.size_toArray, lva, e1]; decide)
    intro D7 h7 F7 N7 hlt7
    revert N6 off6 hex htb off7 F7 N7 hlt7
    revert ex D7 h7
    refine pk3 ?_; generalize pick3 _ _ = zz; generalize zz.1 = ex; generalize zz.2.1 = D7; generalize zz.2.2 = h7; clear zz
    intro N6 off6 hex htb off7 F7 N7 hlt7
    k_steps
    unfold Halt
    refine notin_list_ints (vs := va.drop (kn + 1)) ⟨_, (N7 _ (.head _)).1, rfl, _, rfl⟩ (IntsAre.drop hab (kn + 1)) ?_
    k_steps
    unfold Halt
    walk_at "mine:nmo"
    k_steps
    unfold Halt
    walk_at "mine:nmc"
    k_steps
    unfold Halt
    refine in_list_ints ⟨_, (N7 (la, listOf va.toArray na) (by walk_at "mine:cmem")).1, rfl, _, rfl⟩ hab ?_
    k_steps
    (rename News _ _ _ ((_, _) :: (D7, _) :: _) => N8)
    obtain ⟨T8, hT8⟩ := headIs N8
    subst hT8
    (rename D7 < T8 ∧ _ => hl8)
    have hl9 := lt_of_all (d := T8) (l := (I, oI) :: (C, oC) :: (D, LCg.lst ys) :: cells10 L1 c1 c2 c3 c4 c5 c6 c7 c8 c9 c10 ((lr, listOf vr.toArray nr) :: (ly, listOf vy.toArray ny) :: (lw, listOf vw.toArray nw) :: (la, listOf va.toArray na) :: (ex ++ nw8))) hl8.2
    have q1 : @LT.lt Nat _ I T8 := hl9 (I, oI) (.head _)
    have q2 : @LT.lt Nat _ C T8 := hl9 (C, oC) (.tail _ (.head _))
    have q3 : @LT.lt Nat _ D T8 := hl9 (D, LCg.lst ys) (.tail _ (.tail _ (.head _)))
    have q4 : @LT.lt Nat _ (L1 + 1 + 1 + 1 + 1 + 1 + 1 + 1 + 1 + 1 + 1) T8 := hl9 (_, c1) (.tail _ (.tail _ (.tail _ (.head _))))
    refine LCg.CompEnd.intro (by assumption) N8 (cells10 L1 c1 c2 c3 c4 c5 c6 c7 c8 c9 c10 ((lr, listOf vr.toArray nr) :: (ly, listOf vy.toArray ny) :: (lw, listOf vw.toArray nw) :: (la, listOf va.toArray na) :: (((T8, tupObj #[.str (wd.getD ((kn : Int)).toNat (Str.ofString "")) t7, .bool (!((ab.drop (kn + 1)).any fun x => x == ab.getD ((kn : Int)).toNat 0)), .bool (ab.any fun x => x == (kn : Int))]) :: ex) ++ nw8))) (fun p hp => ?_) (LCg.Off3.of fun p hp => ?_) (.inr ⟨listOf vr.toArray nr, by simp only [cells10, List.mem_cons]; simp, rfl, _, rfl⟩) ⟨_, rfl, ?_, ?_, ?_⟩
    · (revert p; walk_at "mine:sub")
    · by_cases e : p.1 = T8
      · rw [e]
        exact ⟨Nat.ne_of_gt q1, Nat.ne_of_gt q2, Nat.ne_of_gt q3⟩
      · refine off7 p (sub_except (q := (T8, tupObj #[.str (wd.getD ((kn : Int)).toNat (Str.ofString "")) t7, .bool (!((ab.drop (kn + 1)).any fun x => x == ab.getD ((kn : Int)).toNat 0)), .bool (ab.any fun x => x == (kn : Int))])) ?_ hp e)
        walk_at "mine:sub"
    · simp [hyl]
    · exact Apart.cons (.inr (by show @LT.lt Nat _ _ _; (first | exact om132 q4 | omega))) hex
    · intro j r hj hr
      rcases Nat.lt_or_ge j i with h | h
      · obtain ⟨a, t, a1, a2⟩ := htb j r h hr
        exact ⟨a, t, by rw [List.getElem?_append_left (by (first | exact om133 hyl h | omega))]; exact a1, .tail _ a2⟩
      · have e : j = i := by (first | exact om134 hyl hj h | omega)
        subst e
        have er := htb0 j kn r hi hkn hr
        subst er
        refine ⟨T8, t7, by rw [← hyl]; simp, ?_⟩
        exact .head _
  · intro ys nw' hJ
    rename_i zv5 _ _ _ _ _ _
    revert rrow lrow htb0 zv5 iy ir hld hJ
    revert row ways tb ys nw'
    refine pk5 ?_; generalize pick5 _ _ = zz; generalize zz.1 = row; generalize zz.2.1 = ways; generalize zz.2.2.1 = tb; generalize zz.2.2.2.1 = ys; generalize zz.2.2.2.2 = nw'; clear zz
    intro rrow lrow htb0 _ iy ir hld hJ
    obtain ⟨ex, rfl, hyl, hex, htb⟩ := hJ
    intro D h9 tk9 F9 N9 off9
    have hDa := apart_off (L1 := L1) off9
    have pex := hex.app pn
    have p3 : @LT.lt Nat _ lr (L1 + 1) ∨ @LT.lt Nat _ (L1 + 10) lr := .inr (by show @LT.lt Nat _ _ _; (first | exact om135 z0 z1 | omega))
    have p4 : @LT.lt Nat _ ly (L1 + 1) ∨ @LT.lt Nat _ (L1 + 10) ly := .inr (by show @LT.lt Nat _ _ _; (first | exact om132 z0 | omega))
    dsimp only [cells10] at N9
    k_steps
    unfold Halt at hld ⊢
    obtain ⟨e7, e8, e9⟩ := hld
    rw [e7] at ir
    rw [e8] at iy
    (rename Obj.data _ = .cell (some (.ref D)) => e4)
    obtain ⟨c4', h4⟩ := objOf e4
    subst h4
    refine hnext _ _ D lr ly ys vr vy ys.length nr ny c4' ex ⟨rfl, rfl, fun x => x⟩ (fr_ps (by assumption) _ ?_) (newsSub (by assumption) _ ?_) e4 ir iy hyl (fun j r hr => htb j r ?_ (by rw [e9, e7]; exact hr)) (Apart.cons hDa (Apart.cons p3 (Apart.cons p4 pex)))
    · refine List.forall_mem_cons.mpr ⟨?_, List.forall_mem_cons.mpr ⟨?_, List.forall_mem_cons.mpr ⟨?_, List.forall_mem_cons.mpr ⟨?_, List.forall_mem_nil _⟩⟩⟩⟩
      · rfl
      · rfl
      · rfl
      · rfl
    · walk_at "mine:sub"
    · have := lt_of_some hr
      rw [List.length_map, rowL_length] at this
      exact this
end

section
open PySem PySem.W PyProof.Rows PySem.Calls PySem.Spec
local macro_rules | `(tactic| walk_at "execs cons") => `(tactic| walk_at "mine:r9")
local macro_rules | `(tactic| walk_at "call builtin:sorted") => `(tactic| (refine Halt.mk ?_))
theorem law_5 (w : World) (mean : ExcName → Option Value) (mg mb : PySem.Str → Option Value) (hand : Int) (th : Tok) (hh : hand = 0 ∨ hand = 1 ∨ hand = 2) :
  ∀ (fa : Addr) (cd : Value) (L1 : Addr) (h₀ : Heap) (s : Shared) (u : PySem.Str → Option Value) (pv rv yv sv : Value) (c1 c2 c3 c4 c5 c6 c7 c8 c9 c10 : Obj) (news : List (Addr × Obj)) (Q' : Flow → Shared → Prop) (E' : Value → Shared → Prop),
    Below callerA h₀ [] h₀ → Fr h₀ L1 s.heap (kstB u [(Str.ofString "ways", yv), (Str.ofString "row", rv), (Str.ofString "plain", pv), (Str.ofString "script", sv)]) → (Mine.hd.heap_39 w.params).In h₀ →
    News h₀ L1 s.heap (cells10 L1 c1 c2 c3 c4 c5 c6 c7 c8 c9 c10 news) → c3.data = .cell none → c9.data = .cell (some (.int hand th)) →
    Top topProg lzz mean mg mb h₀ → Apart L1 news →
    (∀ (s' : Shared) u' (lk : Addr) (vk : List Value) nk c3', SameX s s' → Fr h₀ L1 s'.heap (kstB u' [(Str.ofString "ways", yv), (Str.ofString "row", rv), (Str.ofString "plain", pv), (Str.ofString "script", sv)]) →
      News h₀ L1 s'.heap (cells10 L1 c1 c2 c3' c4 c5 c6 c7 c8 c9 c10 ((lk, listOf vk.toArray nk) :: news)) → c3'.data = .cell (some (.ref lk)) → StrsAre vk (kindsF hand) → Apart L1 ((lk, listOf vk.toArray nk) :: news) →
      wpAny (model Challenge.rw_ux0024_01.row.toRowW.prog w) (callerA.deeper (envOfC (Str.ofString "law") lawScope L1 fa cd)) (execs (lawBody.drop 14) (envOfC (Str.ofString "law") lawScope L1 fa cd)) Q' E' s') →
    wpAny (model Challenge.rw_ux0024_01.row.toRowW.prog w) (callerA.deeper (envOfC (Str.ofString "law") lawScope L1 fa cd)) (execs (lawBody.drop 13) (envOfC (Str.ofString "law") lawScope L1 fa cd)) Q' E' s := by
  k_fill
  revert hh
  revert lzz w mean mg mb hand th
  refine @pk7 _ _ _ _ _ _ _  ⟨default, (aWorld 0), default, default, default, default, default⟩ _ ?_; generalize pick7 _ _ = zz; generalize zz.1 = lzz; generalize zz.2.1 = w; generalize zz.2.2.1 = mean; generalize zz.2.2.2.1 = mg; generalize zz.2.2.2.2.1 = mb; generalize zz.2.2.2.2.2.1 = hand; generalize zz.2.2.2.2.2.2 = th; clear zz
  intro hh
  intro fa cd L1 h₀ s u pv rv yv sv c1 c2 c3 c4 c5 c6 c7 c8 c9 c10 news Q' E' B F X N d3 d9 T hap hnext
  revert B F X N d3 d9 T hap hnext
  revert fa cd L1 h₀ s u pv rv yv sv c1 c2 c3 c4 c5 c6 c7 c8 c9 c10 news Q' E'
  refine pk12 (o := ⟨default, default, default, default, ({} : Shared), default, default, default, default, default, default, default⟩) ?_; generalize pick12 _ _ = zz; generalize zz.1 = fa; generalize zz.2.1 = cd; generalize zz.2.2.1 = L1; generalize zz.2.2.2.1 = h₀; generalize zz.2.2.2.2.1 = s; generalize zz.2.2.2.2.2.1 = u; generalize zz.2.2.2.2.2.2.1 = pv; generalize zz.2.2.2.2.2.2.2.1 = rv; generalize zz.2.2.2.2.2.2.2.2.1 = yv; generalize zz.2.2.2.2.2.2.2.2.2.1 = sv; generalize zz.2.2.2.2.2.2.2.2.2.2.1 = c1; generalize zz.2.2.2.2.2.2.2.2.2.2.2 = c2; clear zz
  refine pk11 ?_; generalize pick11 _ _ = zz; generalize zz.1 = c3; generalize zz.2.1 = c4; generalize zz.2.2.1 = c5; generalize zz.2.2.2.1 = c6; generalize zz.2.2.2.2.1 = c7; generalize zz.2.2.2.2.2.1 = c8; generalize zz.2.2.2.2.2.2.1 = c9; generalize zz.2.2.2.2.2.2.2.1 = c10; generalize zz.2.2.2.2.2.2.2.2.1 = news; generalize zz.2.2.2.2.2.2.2.2.2.1 = Q'; generalize zz.2.2.2.2.2.2.2.2.2.2 = E'; clear zz
  intro B F X N d3 d9 T hap hnext
  (conv in (lawBody.drop 13) => whnf)
  generalize hsco : lawScope = sco at hnext ⊢
  (have hsco' := hsco.symm; conv at hsco' in lawScope => whnf)
  subst hsco'
  dsimp only [cells10] at N
  dsimp only [kstB] at F
  k_steps
  unfold Halt
  refine ListComp_S F (by with_unfolding_all rfl) (by decide) (by rfl) (by decide) (by rfl) ?_
  k_steps
  refine ⟨Str.ofString "&\"<>", _, _, rfl, rfl, by decide +kernel, by decide +kernel, F, N, ?_⟩
  rintro s₂ ⟨g, rfl⟩
  refine compU_inv (fun i ys nw => StrsAre ys (((Str.ofString "&\"<>").cps.toList.take i).map fun c => due hand ⟨#[c]⟩) ∧ nw = (cells10 L1 c1 c2 c3 c4 c5 c6 c7 c8 c9 c10 news)) ⟨.nil, rfl⟩ ?_ ?_
  · intro i ys nw v I oI C oC D m₂ h6 tk6 E6 hi hJ hv hC hx F6 N6 off6 ne6
    revert hi hJ hv hC hx F6 N6 off6 ne6
    revert g i ys nw v I oI C oC D m₂ h6 tk6 E6
    refine pk12 ?_; generalize pick12 _ _ = zz; generalize zz.1 = g; generalize zz.2.1 = i; generalize zz.2.2.1 = ys; generalize zz.2.2.2.1 = nw; generalize zz.2.2.2.2.1 = v; generalize zz.2.2.2.2.2.1 = I; generalize zz.2.2.2.2.2.2.1 = oI; generalize zz.2.2.2.2.2.2.2.1 = C; generalize zz.2.2.2.2.2.2.2.2.1 = oC; generalize zz.2.2.2.2.2.2.2.2.2.1 = D; generalize zz.2.2.2.2.2.2.2.2.2.2.1 = m₂; generalize zz.2.2.2.2.2.2.2.2.2.2.2 = h6; clear zz
    refine pk2 ?_; generalize pick2 _ _ = zz; generalize zz.1 = tk6; generalize zz.2 = E6; clear zz
    intro hi hJ hv hC hx F6 N6 off6 ne6
    obtain ⟨hys, rfl⟩ := hJ
    obtain ⟨c, tv, hcv, rfl⟩ := hv
    dsimp only [cells10] at N6
    k_steps
    unfold Halt
    walk_at "mine:nmg"
    k_steps
    unfold Halt
    walk_at "mine:nmc"
    k_steps
    unfold Halt
    walk_at "mine:nmo"
    k_steps
    unfold Halt
    refine due_tells w mean mg mb hand th ⟨#[c]⟩ tv _ _ _ _ _ _ _ _ _ _ _ _ _ _ _ _ _ _ (by assumption) (by assumption) (by assumption) (by assumption) (by assumption) rfl (by decide) (by decide) ?_
    intro t7 h7 tk7 F7 N7
    k_steps
    refine LCg.CompEnd.intro (by assumption) (by assumption) _ (fun p hp => hp) off6 trivial ⟨?_, rfl⟩
    rw [List.take_add_one, show (Str.ofString "&\"<>").cps.toList[i]? = some c by simpa using hcv, List.map_append]
    exact StrsAre.snoc hys _ _
  · intro ys nw hJ
    revert hJ
    revert g ys nw
    refine pk3 ?_; generalize pick3 _ _ = zz; generalize zz.1 = g; generalize zz.2.1 = ys; generalize zz.2.2 = nw; clear zz
    intro hJ
    obtain ⟨hys, rfl⟩ := hJ
    intro D h6 tk6 F6 N6 off6
    have hDa := apart_off (L1 := L1) off6
    rw [List.take_of_length_le (by simp)] at hys
    dsimp only [cells10] at N6
    k_steps
    unfold Halt
    refine sorted_N_str F6 N6 ⟨_, (N6 _ (.head _)).1, rfl, _, rfl⟩ hys (by rw [strs_len hys, List.length_map]; decide +kernel) ?_
    intro h7 vk ss e7 F7 N7 ik hperm hsort
    revert F6 N6 off6 hDa F7 N7 ik hperm hsort
    revert D h6 tk6 h7 vk ss e7
    refine pk7 ?_; generalize pick7 _ _ = zz; generalize zz.1 = D; generalize zz.2.1 = h6; generalize zz.2.2.1 = tk6; generalize zz.2.2.2.1 = h7; generalize zz.2.2.2.2.1 = vk; generalize zz.2.2.2.2.2.1 = ss; generalize zz.2.2.2.2.2.2 = e7; clear zz
    intro F6 N6 off6 hDa F7 N7 ik hperm hsort
    have ess := kinds_sorted hh hperm hsort
    subst ess
    (rename News _ _ _ _ => N8)
    obtain ⟨lk, hlk⟩ := headIs N8
    have hlkb : @LT.lt Nat _ (L1 + 1 + 1 + 1 + 1 + 1 + 1 + 1 + 1 + 1 + 1) lk := by
      rw [hlk]
      exact Nat.lt_succ_of_lt (Heap.lt_size (N6 (_, c1) (.tail _ (.head _))).1)
    rw [← hlk] at N8 ⊢
    k_steps
    unfold Halt
    (rename Obj.data _ = .cell (some (.ref lk)) => e3)
    obtain ⟨c3', h3⟩ := objOf e3
    subst h3
    refine hnext _ _ lk vk e7 c3' ⟨rfl, rfl, fun x => x⟩ (fr_ps (by assumption) _ ?_) (newsSub (by assumption) _ ?_) e3 ik (Apart.cons (.inr (by show @LT.lt Nat _ _ _; (first | exact om132 hlkb | omega))) hap)
    · refine List.forall_mem_cons.mpr ⟨?_, List.forall_mem_cons.mpr ⟨?_, List.forall_mem_cons.mpr ⟨?_, List.forall_mem_cons.mpr ⟨?_, List.forall_mem_nil _⟩⟩⟩⟩
      · rfl
      · rfl
      · rfl
      · rfl
    · walk_at "mine:sub"
end

section
open PySem PySem.W PyProof.Rows PySem.Calls PySem.Spec
local macro_rules | `(tactic| walk_at "execs cons") => `(tactic| walk_at "mine:r12")
local macro_rules | `(tactic| walk_at "call builtin:list.index") => `(tactic| (refine Halt.mk ?_))
local macro_rules | `(tactic| walk_at "compareOp NotEq str str") => `(tactic| (refine Halt.mk ?_))
theorem law_6 (w : World) (mean : ExcName → Option Value) (mg mb : PySem.Str → Option Value) (hand : Int) (th : Tok) (lsc : Addr) (vsc : List Value) (sc : List Int) (hsc : IntsAre vsc sc)
    (lk lt : Addr) (vk vt : List Value) (nk nt : Nat) (ks : List PySem.Str) (tb : List TRow) (ps bs : Nat → List Int) (hks : StrsAre vk ks) (hB : BlocksAre tb ks ps bs) (htl : tb.length = 7) (hkl : ks.length = 4) (hvt : vt.length = 7)
    (plain : PySem.Str) (tp : Tok) (G : Nat → PySem.Str) (rank : Nat → Nat) (hG : ∀ k, k < 7 → (G k).length ≤ 500) (hleaf : ∀ k nm la, tb[k]? = some (nm, la, false) → G k = Str.ofString "(" ++ nm ++ Str.ofString ")")
    (hin : ∀ k nm la, tb[k]? = some (nm, la, true) → InnerAt ks ((List.range 4).map ps) ((List.range 4).map bs) G rank k nm) (hrk : rank 0 < 8) (hG0 : G 0 = plain)
    (ui : Nat) (hui : ks[ui]? = some (due hand (signAt ((sc.sum.fdiv 12).fmod 4)))) (huo : ∀ i, i < ui → ks[i]? ≠ some (due hand (signAt ((sc.sum.fdiv 12).fmod 4)))) :
  ∀ (fa : Addr) (cd : Value) (L1 : Addr) (h₀ : Heap) (s : Shared) (u : PySem.Str → Option Value) (rv yv : Value) (c1 c2 c3 c4 c5 c6 c7 c8 c9 c10 : Obj) (news : List (Addr × Obj)) (Q' : Flow → Shared → Prop) (E' : Value → Shared → Prop),
    Below callerA h₀ [] h₀ → Fr h₀ L1 s.heap (kstB u [(Str.ofString "ways", yv), (Str.ofString "row", rv), (Str.ofString "plain", .str plain tp), (Str.ofString "script", .ref lsc)]) → (Mine.hd.heap_39 w.params).In h₀ →
    News h₀ L1 s.heap (cells10 L1 c1 c2 c3 c4 c5 c6 c7 c8 c9 c10 ((lk, listOf vk.toArray nk) :: (lt, listOf vt.toArray nt) :: news)) → c2.data = .cell none → c3.data = .cell (some (.ref lk)) → c4.data = .cell (some (.ref lt)) → c9.data = .cell (some (.int hand th)) →
    (∀ p ∈ cells10 L1 c1 c2 c3 c4 c5 c6 c7 c8 c9 c10 [], ∃ v, p.2.data = .cell v) → h₀.IsList lsc vsc.toArray →
    (∀ (j : Nat) (r : TRow), tb[j]? = some r → ∃ a t, vt[j]? = some (Value.ref a) ∧ (a, tupObj #[.str r.1 t, .bool r.2.1, .bool r.2.2]) ∈ news) →
    Top topProg lzz mean mg mb h₀ → Apart L1 ((lk, listOf vk.toArray nk) :: (lt, listOf vt.toArray nt) :: news) →
    (∀ (s' : Shared) u' (lb lp : Addr) (vb vp : List Value) nb np c2' tu more, SameX s s' → Fr h₀ L1 s'.heap (kstB u' [(Str.ofString "begins", .ref lb), (Str.ofString "places", .ref lp), (Str.ofString "ways", yv), (Str.ofString "row", rv)]) →
      News h₀ L1 s'.heap (cells10 L1 c1 c2' c3 c4 c5 c6 c7 c8 c9 c10 ((lb, listOf vb.toArray nb) :: (lp, listOf vp.toArray np) :: (lk, listOf vk.toArray nk) :: (lt, listOf vt.toArray nt) :: (more ++ news))) → c2'.data = .cell (some (.int (ui : Nat) tu)) →
      vp.length = 4 → vb.length = 4 → RefsAre more vp ps → RefsAre more vb bs → Apart L1 ((lb, listOf vb.toArray nb) :: (lp, listOf vp.toArray np) :: (lk, listOf vk.toArray nk) :: (lt, listOf vt.toArray nt) :: (more ++ news)) →
      wpAny (model Challenge.rw_ux0024_01.row.toRowW.prog w) (callerA.deeper (envOfC (Str.ofString "law") lawScope L1 fa cd)) (execs (lawBody.drop 17) (envOfC (Str.ofString "law") lawScope L1 fa cd)) Q' E' s') →
    wpAny (model Challenge.rw_ux0024_01.row.toRowW.prog w) (callerA.deeper (envOfC (Str.ofString "law") lawScope L1 fa cd)) (execs (lawBody.drop 14) (envOfC (Str.ofString "law") lawScope L1 fa cd)) Q' E' s := by
  k_fill
  revert hsc hks hB htl hkl hvt hG hleaf hin hrk hG0 hui huo
  revert lzz w mean mg mb hand th lsc vsc sc lk lt vk vt nk nt ks tb ps bs plain tp G rank ui
  refine @pk12 _ _ _ _ _ _ _ _ _ _ _ _  ⟨default, (aWorld 0), default, default, default, default, default, default, default, default, default, default⟩ _ ?_; generalize pick12 _ _ = zz; generalize zz.1 = lzz; generalize zz.2.1 = w; generalize zz.2.2.1 = mean; generalize zz.2.2.2.1 = mg; generalize zz.2.2.2.2.1 = mb; generalize zz.2.2.2.2.2.1 = hand; generalize zz.2.2.2.2.2.2.1 = th; generalize zz.2.2.2.2.2.2.2.1 = lsc; generalize zz.2.2.2.2.2.2.2.2.1 = vsc; generalize zz.2.2.2.2.2.2.2.2.2.1 = sc; generalize zz.2.2.2.2.2.2.2.2.2.2.1 = lk; generalize zz.2.2.2.2.2.2.2.2.2.2.2 = lt; clear zz
  refine @pk12 _ _ _ _ _ _ _ _ _ _ _ _ inferInstance _ ?_; generalize pick12 _ _ = zz; generalize zz.1 = vk; generalize zz.2.1 = vt; generalize zz.2.2.1 = nk; generalize zz.2.2.2.1 = nt; generalize zz.2.2.2.2.1 = ks; generalize zz.2.2.2.2.2.1 = tb; generalize zz.2.2.2.2.2.2.1 = ps; generalize zz.2.2.2.2.2.2.2.1 = bs; generalize zz.2.2.2.2.2.2.2.2.1 = plain; generalize zz.2.2.2.2.2.2.2.2.2.1 = tp; generalize zz.2.2.2.2.2.2.2.2.2.2.1 = G; generalize zz.2.2.2.2.2.2.2.2.2.2.2 = rank; clear zz
  refine @pk1 _ inferInstance _ ?_; generalize pick1 _ _ = ui
  intro hsc hks hB htl hkl hvt hG hleaf hin hrk hG0 hui huo
  intro fa cd L1 h₀ s u rv yv c1 c2 c3 c4 c5 c6 c7 c8 c9 c10 news Q' E' B F X N d2 d3 d4 d9 hcs hL hrow T hap hnext
  revert B F X N d2 d3 d4 d9 hcs hL hrow T hap hnext
  revert fa cd L1 h₀ s u rv yv c1 c2 c3 c4 c5 c6 c7 c8 c9 c10 news Q' E'
  refine pk12 (o := ⟨default, default, default, default, ({} : Shared), default, default, default, default, default, default, default⟩) ?_; generalize pick12 _ _ = zz; generalize zz.1 = fa; generalize zz.2.1 = cd; generalize zz.2.2.1 = L1; generalize zz.2.2.2.1 = h₀; generalize zz.2.2.2.2.1 = s; generalize zz.2.2.2.2.2.1 = u; generalize zz.2.2.2.2.2.2.1 = rv; generalize zz.2.2.2.2.2.2.2.1 = yv; generalize zz.2.2.2.2.2.2.2.2.1 = c1; generalize zz.2.2.2.2.2.2.2.2.2.1 = c2; generalize zz.2.2.2.2.2.2.2.2.2.2.1 = c3; generalize zz.2.2.2.2.2.2.2.2.2.2.2 = c4; clear zz
  refine pk9 ?_; generalize pick9 _ _ = zz; generalize zz.1 = c5; generalize zz.2.1 = c6; generalize zz.2.2.1 = c7; generalize zz.2.2.2.1 = c8; generalize zz.2.2.2.2.1 = c9; generalize zz.2.2.2.2.2.1 = c10; generalize zz.2.2.2.2.2.2.1 = news; generalize zz.2.2.2.2.2.2.2.1 = Q'; generalize zz.2.2.2.2.2.2.2.2 = E'; clear zz
  intro B F X N d2 d3 d4 d9 hcs hL hrow T hap hnext
  (conv in (lawBody.drop 14) => whnf)
  generalize hsco : lawScope = sco at hnext ⊢
  (have hsco' := hsco.symm; conv at hsco' in lawScope => whnf)
  subst hsco'
  dsimp only [cells10] at N
  dsimp only [kstB] at F
  have p1 := hap.head
  have p2 := hap.tail.head
  have pn := hap.tail.tail
  have hold := Halt.of (And.intro hB (And.intro hrow (And.intro hleaf (And.intro hin (And.intro huo (And.intro hui (And.intro hG hcs)))))))
  clear hB hrow hleaf hin huo hui hG hcs
  k_steps
  unfold Halt at hold ⊢
  refine blocks_tells w mean mg mb lt lk vt vk nt nk tb ks ps bs hks hold.1 htl hkl _ _ _ _ _ _ _ _ _ _ _ _ _ _ _ _ _ _ (by assumption) (by assumption) (by assumption) (by assumption) (by assumption) rfl (by decide) (by decide) (by walk_at "mine:cmem") (by walk_at "mine:cmem") hvt (fun j r hr => ?_) ?_
  · obtain ⟨a, t, a1, a2⟩ := hold.2.1 j r hr
    exact ⟨a, t, a1, by walk_at "mine:cmem"; exact a2⟩
  intro l1 lp lb vp np vb nb more h1 tk1 hvp hvb hRp hRb F1 N1 r1
  revert hvp hvb hRp hRb F1 N1 r1
  revert l1 lp lb vp np vb nb more h1 tk1
  refine pk10 ?_; generalize pick10 _ _ = zz; generalize zz.1 = l1; generalize zz.2.1 = lp; generalize zz.2.2.1 = lb; generalize zz.2.2.2.1 = vp; generalize zz.2.2.2.2.1 = np; generalize zz.2.2.2.2.2.1 = vb; generalize zz.2.2.2.2.2.2.1 = nb; generalize zz.2.2.2.2.2.2.2.1 = more; generalize zz.2.2.2.2.2.2.2.2.1 = h1; generalize zz.2.2.2.2.2.2.2.2.2 = tk1; clear zz
  intro hvp hvb hRp hRb F1 N1 r1
  have z0 : @LT.lt Nat _ (L1 + 1 + 1 + 1 + 1 + 1 + 1 + 1 + 1 + 1 + 1) lp := r1 _ (.head _)
  have hold := Halt.of hold
  k_steps
  unfold Halt
  walk_at "mine:unpk"
  (rename News _ _ _ _ => N2)
  obtain ⟨more', hsub, hlists, hshr⟩ := RefsAre.shrink (more := more)
  replace hRp := hshr _ _ hRp
  replace hRb := hshr _ _ hRb
  have N3 : News h₀ L1 _ (cells10 L1 c1 c2 c3 c4 c5 c6 c7 c8 c9 c10 ((lb, listOf vb.toArray nb) :: (lp, listOf vp.toArray np) :: (lk, listOf vk.toArray nk) :: (lt, listOf vt.toArray nt) :: (more' ++ news))) := newsSub N2 _ (by
    walk_at "mine:sub"
    exact sub_tr hsub (by first | walk_at "mine:front" | walk_at "mine:beh" | (intro p hp; simp [hp])))
  unfold Halt at hold
  have pall : Apart L1 ((lb, listOf vb.toArray nb) :: (lp, listOf vp.toArray np) :: more') := apart_lists N3 (newsSub N3 _ (by walk_at "mine:sub")) (by
    intro p hp
    rcases List.mem_cons.mp hp with rfl | hp
    · exact ⟨_, _, rfl⟩
    rcases List.mem_cons.mp hp with rfl | hp
    · exact ⟨_, _, rfl⟩
    · exact hlists p hp) hold.2.2.2.2.2.2.2
  have p3 := pall.head
  have p4 := pall.tail.head
  have pmn := pall.tail.tail.app pn
  have hold := Halt.of hold
  clear N2 N1 N hsub hlists hshr r1
  dsimp only [cells10] at N3
  have hold2 := Halt.of (And.intro hRp hRb)
  clear hRp hRb pall
  k_steps
  unfold Halt at hold ⊢
  obtain ⟨hRp, hRb⟩ := (show RefsAre more' vp ps ∧ RefsAre more' vb bs from hold2)
  refine grown_tells w mean mg mb lt lk lp lb nk vk tb ks ((List.range 4).map ps) ((List.range 4).map bs) G rank hks htl (by (first | exact om187 hkl | omega)) (by simp) (by simp) hold.2.2.2.2.2.2.1 hold.2.2.1 hold.2.2.2.1 8 0 _ (Nat.le_refl _) (by decide) hrk _ _ _ _ _ _ _ _ _ _ _ _ _ _ _ _ _ _ (by assumption) (by assumption) (by assumption) (by assumption) (by assumption) rfl (by decide) (by decide) ⟨vt, nt, by walk_at "mine:cmem", by rw [hvt, htl], fun j r hr => ?_⟩ (by walk_at "mine:cmem") (refs_lists hRp hvp (by walk_at "mine:cmem") (fun p hp => ?_)) (refs_lists hRb hvb (by walk_at "mine:cmem") (fun p hp => ?_)) ?_
  · obtain ⟨a, t, a1, a2⟩ := hold.2.1 j r hr
    refine ⟨a, t, a1, ?_⟩
    walk_at "mine:cmem"
    exact List.mem_append_right _ a2
  · walk_at "mine:cmem"
    exact List.mem_append_left _ hp
  · walk_at "mine:cmem"
    exact List.mem_append_left _ hp
  intro t4 h4 tk4 F4 N4
  rename_i zv2 zv1 zv0
  revert pmn hold2 zv1 zv0 hRp hRb F4 N4
  revert more' zv2 tk t4 h4 tk4
  refine pk6 ?_; generalize pick6 _ _ = zz; generalize zz.1 = more'; generalize zz.2.1 = zv2; generalize zz.2.2.1 = tk; generalize zz.2.2.2.1 = t4; generalize zz.2.2.2.2.1 = h4; generalize zz.2.2.2.2.2 = tk4; clear zz
  intro pmn hold2 _ _ hRp hRb F4 N4
  have hold := Halt.of hold
  clear hRp hRb
  rw [hG0]
  k_steps
  unfold Halt
  refine PyProof.Rows.ne_str ?_
  rw [show (plain != plain) = false by simp]
  k_steps
  unfold Halt
  (rename Fr _ _ _ _ => F5)
  (rename News _ _ _ _ => N5)
  refine sumK rfl F5 N5 (list_up hL F5) hsc ?_
  intro h6 t6 tk6 F6 N6
  revert F6 N6
  revert h6 t6 tk6
  refine pk3 ?_; generalize pick3 _ _ = zz; generalize zz.1 = h6; generalize zz.2.1 = t6; generalize zz.2.2 = tk6; clear zz
  intro F6 N6
  k_steps
  unfold Halt
  have q1 : 0 ≤ (sc.sum.fdiv 12).fmod 4 := Int.fmod_nonneg_of_pos _ (by decide)
  have q2 : (sc.sum.fdiv 12).fmod 4 < 4 := Int.fmod_lt_of_pos _ (by decide)
  refine sign_item q1 q2 ?_
  intro t7
  revert t7
  refine pk1 ?_; generalize pick1 _ _ = t7
  k_steps
  unfold Halt
  refine due_tells w mean mg mb hand th _ t7 _ _ _ _ _ _ _ _ _ _ _ _ _ _ _ _ _ _ (by assumption) (by assumption) (by assumption) (by assumption) (by assumption) rfl (by decide) (by decide) ?_
  intro t8 h8 tk8 F8 N8
  revert F8 N8
  revert t8 h8 tk8
  refine pk3 ?_; generalize pick3 _ _ = zz; generalize zz.1 = t8; generalize zz.2.1 = h8; generalize zz.2.2 = tk8; clear zz
  intro F8 N8
  k_steps
  unfold Halt at hold ⊢
  refine idx_strs N8 (by walk_at "mine:cmem") hks hold.2.2.2.2.2.1 hold.2.2.2.2.1 (by (first | exact om188 hkl | omega)) ?_
  have hold := Halt.of hold
  k_steps
  unfold Halt
  obtain ⟨hRp, hRb⟩ := (show RefsAre more' vp ps ∧ RefsAre more' vb bs from hold2)
  (rename Obj.data _ = .cell (some (.int (ui : Nat) _)) => e2)
  obtain ⟨c2', h2⟩ := objOf e2
  subst h2
  refine hnext _ _ lb lp vb vp nb np c2' _ more' ⟨rfl, rfl, fun x => x⟩ (fr_ps (by assumption) _ ?_) (newsSub (by assumption) _ ?_) e2 hvp hvb hRp hRb (Apart.cons p3 (Apart.cons p4 (Apart.cons p1 (Apart.cons p2 pmn))))
  · refine List.forall_mem_cons.mpr ⟨?_, List.forall_mem_cons.mpr ⟨?_, List.forall_mem_cons.mpr ⟨?_, List.forall_mem_cons.mpr ⟨?_, List.forall_mem_nil _⟩⟩⟩⟩
    · rfl
    · rfl
    · rfl
    · rfl
  · walk_at "mine:sub"
end

section
open PySem PySem.W PyProof.Rows PySem.Calls PySem.Spec
local macro_rules | `(tactic| walk_at "call builtin:list.index") => `(tactic| (refine Halt.mk ?_))
local macro_rules | `(tactic| walk_at "compareOp NotEq ref ref") => `(tactic| (refine Halt.mk ?_))
local macro_rules | `(tactic| walk_at "binaryOp Add str str") => `(tactic| (refine Halt.mk ?_))
local macro_rules | `(tactic| walk_at "binaryOp Sub int int") => `(tactic| (refine Halt.mk ?_))
local macro_rules | `(tactic| walk_at "compareOp In int ref") => `(tactic| (refine Halt.mk ?_))
local macro_rules | `(tactic| walk_at "compareOp NotEq int int") => `(tactic| (refine Halt.mk ?_))
theorem law_7 (w : World) (mean : ExcName → Option Value) (mg mb : PySem.Str → Option Value) (lk lt lr ly lab lwd lb lp : Addr) (vk vt vr vy vab vwd vb vp : List Value) (nk nt nr ny nab nwd nb np : Nat)
    (ks ws wd : List PySem.Str) (row ab : List Int) (tb : List TRow) (ps bs : Nat → List Int) (hks : StrsAre vk ks) (hrow : IntsAre vr row) (hws : StrsAre vy ws) (hab : IntsAre vab ab) (hwd : StrsAre vwd wd)
    (l0 : ks.length = 4) (l1 : row.length = 7) (l2 : ws.length = 7) (l3 : ab.length = 7) (l4 : wd.length = 7) (l5 : tb.length = 7) (hvt : vt.length = 7) (hvp : vp.length = 4) (hvb : vb.length = 4)
    (rrow : ∀ i : Nat, i < row.length → 0 ≤ row.getD i 0 ∧ row.getD i 0 < 7) (hwl : ∀ i : Nat, (ws.getD i (Str.ofString "")).length ≤ 100) (rab : ∀ i : Nat, 1 ≤ i → i < 7 → 0 ≤ ab.getD i 0 ∧ ab.getD i 0 < 7) (hkl : ∀ i : Nat, (ks.getD i (Str.ofString "")).length ≤ 6)
    (ui : Nat) (tu : Tok) (hui : ui < 4) (hbu : (bs ui).length ≤ 8 ∧ 1 ≤ (bs ui).length) (cl cr cutL cutR : Nat → Nat) (H : ∀ i, i < 4 → LoopAt ks ws wd row ab tb ps bs ui i (cl i) (cr i) (cutL i) (cutR i)) :
  ∀ (fa : Addr) (cd : Value) (L1 : Addr) (h₀ : Heap) (s : Shared) (u : PySem.Str → Option Value) (c1 c2 c3 c4 c5 c6 c7 c8 c9 c10 : Obj) (news : List (Addr × Obj)) (Q' : Flow → Shared → Prop) (E' : Value → Shared → Prop),
    Below callerA h₀ [] h₀ → Fr h₀ L1 s.heap (kstB u [(Str.ofString "begins", .ref lb), (Str.ofString "places", .ref lp), (Str.ofString "ways", .ref ly), (Str.ofString "row", .ref lr)]) → (Mine.hd.heap_39 w.params).In h₀ → CodeHd h₀ 221 217 →
    News h₀ L1 s.heap (cells10 L1 c1 c2 c3 c4 c5 c6 c7 c8 c9 c10 ((217, tabObj #[]) :: (lb, listOf vb.toArray nb) :: (lp, listOf vp.toArray np) :: (lk, listOf vk.toArray nk) :: (lt, listOf vt.toArray nt) :: (lr, listOf vr.toArray nr) :: (ly, listOf vy.toArray ny) :: (lwd, listOf vwd.toArray nwd) :: (lab, listOf vab.toArray nab) :: news)) →
    c1.data = .cell none → c2.data = .cell (some (.int (ui : Nat) tu)) → c3.data = .cell (some (.ref lk)) → c4.data = .cell (some (.ref lt)) → c7.data = .cell (some (.ref lwd)) → c10.data = .cell (some (.ref lab)) →
    (∀ (j : Nat) (r : TRow), tb[j]? = some r → ∃ a t, vt[j]? = some (Value.ref a) ∧ (a, tupObj #[.str r.1 t, .bool r.2.1, .bool r.2.2]) ∈ news) → RefsAre news vp ps → RefsAre news vb bs →
    Top topProg lzz mean mg mb h₀ → Apart L1 ((217, tabObj #[]) :: (lb, listOf vb.toArray nb) :: (lp, listOf vp.toArray np) :: (lk, listOf vk.toArray nk) :: (lt, listOf vt.toArray nt) :: (lr, listOf vr.toArray nr) :: (ly, listOf vy.toArray ny) :: (lwd, listOf vwd.toArray nwd) :: (lab, listOf vab.toArray nab) :: news) →
    (∀ p ∈ ((lb, listOf vb.toArray nb) :: (lp, listOf vp.toArray np) :: (lk, listOf vk.toArray nk) :: (lt, listOf vt.toArray nt) :: (lr, listOf vr.toArray nr) :: (ly, listOf vy.toArray ny) :: (lwd, listOf vwd.toArray nwd) :: (lab, listOf vab.toArray nab) :: news), p.1 ≠ 217) → @LT.lt Nat _ 217 (L1 + 1) →
    (∀ (s' : Shared) m' ps', SameX s s' → Fr h₀ L1 s'.heap m' → News h₀ L1 s'.heap ((217, tabObj ps') :: news) → Q' (.ret (.bool true)) s') →
    wpAny (model Challenge.rw_ux0024_01.row.toRowW.prog w) (callerA.deeper (envOfC (Str.ofString "law") lawScope L1 fa cd)) (execs (lawBody.drop 17) (envOfC (Str.ofString "law") lawScope L1 fa cd)) Q' E' s := by
  k_fill
  revert hks hrow hws hab hwd l0 l1 l2 l3 l4 l5 hvt hvp hvb rrow hwl rab hkl hui hbu H
  revert lzz w mean mg mb lk lt lr ly lab lwd lb lp vk vt vr vy vab vwd vb vp nk nt nr ny nab nwd nb np ks ws wd row ab tb ps bs ui tu cl cr cutL cutR
  refine @pk12 _ _ _ _ _ _ _ _ _ _ _ _  ⟨default, (aWorld 0), default, default, default, default, default, default, default, default, default, default⟩ _ ?_; generalize pick12 _ _ = zz; generalize zz.1 = lzz; generalize zz.2.1 = w; generalize zz.2.2.1 = mean; generalize zz.2.2.2.1 = mg; generalize zz.2.2.2.2.1 = mb; generalize zz.2.2.2.2.2.1 = lk; generalize zz.2.2.2.2.2.2.1 = lt; generalize zz.2.2.2.2.2.2.2.1 = lr; generalize zz.2.2.2.2.2.2.2.2.1 = ly; generalize zz.2.2.2.2.2.2.2.2.2.1 = lab; generalize zz.2.2.2.2.2.2.2.2.2.2.1 = lwd; generalize zz.2.2.2.2.2.2.2.2.2.2.2 = lb; clear zz
  refine @pk12 _ _ _ _ _ _ _ _ _ _ _ _ inferInstance _ ?_; generalize pick12 _ _ = zz; generalize zz.1 = lp; generalize zz.2.1 = vk; generalize zz.2.2.1 = vt; generalize zz.2.2.2.1 = vr; generalize zz.2.2.2.2.1 = vy; generalize zz.2.2.2.2.2.1 = vab; generalize zz.2.2.2.2.2.2.1 = vwd; generalize zz.2.2.2.2.2.2.2.1 = vb; generalize zz.2.2.2.2.2.2.2.2.1 = vp; generalize zz.2.2.2.2.2.2.2.2.2.1 = nk; generalize zz.2.2.2.2.2.2.2.2.2.2.1 = nt; generalize zz.2.2.2.2.2.2.2.2.2.2.2 = nr; clear zz
  refine @pk12 _ _ _ _ _ _ _ _ _ _ _ _ inferInstance _ ?_; generalize pick12 _ _ = zz; generalize zz.1 = ny; generalize zz.2.1 = nab; generalize zz.2.2.1 = nwd; generalize zz.2.2.2.1 = nb; generalize zz.2.2.2.2.1 = np; generalize zz.2.2.2.2.2.1 = ks; generalize zz.2.2.2.2.2.2.1 = ws; generalize zz.2.2.2.2.2.2.2.1 = wd; generalize zz.2.2.2.2.2.2.2.2.1 = row; generalize zz.2.2.2.2.2.2.2.2.2.1 = ab; generalize zz.2.2.2.2.2.2.2.2.2.2.1 = tb; generalize zz.2.2.2.2.2.2.2.2.2.2.2 = ps; clear zz
  refine @pk7 _ _ _ _ _ _ _ inferInstance _ ?_; generalize pick7 _ _ = zz; generalize zz.1 = bs; generalize zz.2.1 = ui; generalize zz.2.2.1 = tu; generalize zz.2.2.2.1 = cl; generalize zz.2.2.2.2.1 = cr; generalize zz.2.2.2.2.2.1 = cutL; generalize zz.2.2.2.2.2.2 = cutR; clear zz
  intro hks hrow hws hab hwd l0 l1 l2 l3 l4 l5 hvt hvp hvb rrow hwl rab hkl hui hbu H
  intro fa cd L1 h₀ s u c1 c2 c3 c4 c5 c6 c7 c8 c9 c10 news Q' E' B F X C217 N d1 d2 d3 d4 d7 d10 hrow' hRp hRb T hap h217 hlt hnext
  revert B F X C217 N d1 d2 d3 d4 d7 d10 hrow' hRp hRb T hap h217 hlt hnext
  revert fa cd L1 h₀ s u c1 c2 c3 c4 c5 c6 c7 c8 c9 c10 news Q' E'
  refine pk12 (o := ⟨default, default, default, default, ({} : Shared), default, default, default, default, default, default, default⟩) ?_; generalize pick12 _ _ = zz; generalize zz.1 = fa; generalize zz.2.1 = cd; generalize zz.2.2.1 = L1; generalize zz.2.2.2.1 = h₀; generalize zz.2.2.2.2.1 = s; generalize zz.2.2.2.2.2.1 = u; generalize zz.2.2.2.2.2.2.1 = c1; generalize zz.2.2.2.2.2.2.2.1 = c2; generalize zz.2.2.2.2.2.2.2.2.1 = c3; generalize zz.2.2.2.2.2.2.2.2.2.1 = c4; generalize zz.2.2.2.2.2.2.2.2.2.2.1 = c5; generalize zz.2.2.2.2.2.2.2.2.2.2.2 = c6; clear zz
  refine pk7 ?_; generalize pick7 _ _ = zz; generalize zz.1 = c7; generalize zz.2.1 = c8; generalize zz.2.2.1 = c9; generalize zz.2.2.2.1 = c10; generalize zz.2.2.2.2.1 = news; generalize zz.2.2.2.2.2.1 = Q'; generalize zz.2.2.2.2.2.2 = E'; clear zz
  intro B F X C217 N d1 d2 d3 d4 d7 d10 hrow' hRp hRb T hap h217 hlt hnext
  (conv in (lawBody.drop 17) => whnf)
  generalize hsco : lawScope = sco
  (have hsco' := hsco.symm; conv at hsco' in lawScope => whnf)
  subst hsco'
  dsimp only [kstB] at F
  have hold := Halt.of (And.intro C217 (And.intro hrow' (And.intro hRp (And.intro hRb h217))))
  clear C217 hrow' hRp hRb h217
  have N2 : News h₀ L1 _ ((L1 + 1 + 1 + 1 + 1 + 1 + 1 + 1 + 1 + 1 + 1, c1) :: (tabF none ++ ((L1 + 1 + 1 + 1 + 1 + 1 + 1 + 1 + 1 + 1, c2) :: (L1 + 1 + 1 + 1 + 1 + 1 + 1 + 1 + 1, c3) :: (L1 + 1 + 1 + 1 + 1 + 1 + 1 + 1, c4) :: (L1 + 1 + 1 + 1 + 1, c7) :: (L1 + 1, c10) ::
    (lb, listOf vb.toArray nb) :: (lp, listOf vp.toArray np) :: (lk, listOf vk.toArray nk) :: (lt, listOf vt.toArray nt) :: (lr, listOf vr.toArray nr) :: (ly, listOf vy.toArray ny) :: (lwd, listOf vwd.toArray nwd) :: (lab, listOf vab.toArray nab) :: news))) := newsSub N _ (by walk_at "mine:sub")
  k_steps
  refine wpAny_For ?_
  k_steps
  unfold Halt
  rename_i zv8 zv7 zv6 zv5 zv4 zv3 zv2 zv1 zv0
  revert zv3 zv2 zv1 zv0
  revert zv8 zv7 zv6 zv5 zv4
  refine pk5 ?_; generalize pick5 _ _ = zz; generalize zz.1 = zv8; generalize zz.2.1 = zv7; generalize zz.2.2.1 = zv6; generalize zz.2.2.2.1 = zv5; generalize zz.2.2.2.2 = zv4; clear zz
  intro _ _ _ _
  (rename Fr _ _ _ _ => F3)
  refine cell_rng 4 (σ := Option ((Addr × Obj) × (Addr × Obj))) (c := L1 + 1 + 1 + 1 + 1 + 1 + 1 + 1 + 1 + 1 + 1) (oc := c1) (v₀ := none)
    (fun tab => tabF tab ++ ((L1 + 1 + 1 + 1 + 1 + 1 + 1 + 1 + 1 + 1, c2) :: (L1 + 1 + 1 + 1 + 1 + 1 + 1 + 1 + 1, c3) :: (L1 + 1 + 1 + 1 + 1 + 1 + 1 + 1, c4) :: (L1 + 1 + 1 + 1 + 1, c7) :: (L1 + 1, c10) ::
    (lb, listOf vb.toArray nb) :: (lp, listOf vp.toArray np) :: (lk, listOf vk.toArray nk) :: (lt, listOf vt.toArray nt) :: (lr, listOf vr.toArray nr) :: (ly, listOf vy.toArray ny) :: (lwd, listOf vwd.toArray nwd) :: (lab, listOf vab.toArray nab) :: news))
    (fun _ => []) [Str.ofString "low", Str.ofString "high", Str.ofString "start", Str.ofString "end", Str.ofString "such"] (fun _ tab => tabFP tab) none
    rfl (by assumption) (by decide) (by decide) rfl rfl rfl F3 (by assumption) d1 ?off (List.forall_mem_nil _) trivial ?turn ?done
  case off =>
    intro p hp
    rcases List.mem_append.mp hp with hp | hp
    · rw [List.mem_singleton.mp hp]
      show @Ne Nat _ _; (first | exact om0 hlt | omega)
    · simp only [List.mem_cons] at hp
      rcases hp with rfl | rfl | rfl | rfl | rfl | hp
      · show @Ne Nat _ _; (first | exact om1 | omega)
      · show @Ne Nat _ _; (first | exact om2 | omega)
      · show @Ne Nat _ _; (first | exact om3 | omega)
      · show @Ne Nat _ _; (first | exact om4 | omega)
      · show @Ne Nat _ _; (first | exact om5 | omega)
      · have := hap.tail p (by simpa only [List.mem_cons] using hp)
        show @Ne Nat _ _; (first | exact om6 this | omega)
  case turn =>
    intro I it oc₁ i tab t u h tk hit hi hJ hoc off hcI F1 N1
    revert hit hi hJ hoc off hcI F1 N1
    revert I it oc₁ i tab t u h tk
    refine pk9 ?_; generalize pick9 _ _ = zz; generalize zz.1 = I; generalize zz.2.1 = it; generalize zz.2.2.1 = oc₁; generalize zz.2.2.2.1 = i; generalize zz.2.2.2.2.1 = tab; generalize zz.2.2.2.2.2.1 = t; generalize zz.2.2.2.2.2.2.1 = u; generalize zz.2.2.2.2.2.2.2.1 = h; generalize zz.2.2.2.2.2.2.2.2 = tk; clear zz
    intro hit hi hJ hoc off hcI F1 N1
    dsimp only [kstB] at F1
    have Hi := H i hi
    rw [Int.zero_add] at hoc
    replace F1 : Fr _ L1 _ _ := F1
    have N3 : News h₀ L1 h ((L1 + 1 + 1 + 1 + 1 + 1 + 1 + 1 + 1 + 1 + 1, oc₁) :: (L1 + 1 + 1 + 1 + 1 + 1 + 1 + 1 + 1 + 1, c2) :: (L1 + 1 + 1 + 1 + 1 + 1 + 1 + 1 + 1, c3) :: (L1 + 1 + 1 + 1 + 1 + 1 + 1 + 1, c4) :: (L1 + 1 + 1 + 1 + 1, c7) :: (L1 + 1, c10) ::
      (lb, listOf vb.toArray nb) :: (lp, listOf vp.toArray np) :: (lk, listOf vk.toArray nk) :: (lt, listOf vt.toArray nt) :: (lr, listOf vr.toArray nr) :: (ly, listOf vy.toArray ny) :: (lwd, listOf vwd.toArray nwd) :: (lab, listOf vab.toArray nab) :: (I, it) :: (tabF tab ++ news)) := newsSub N1 _ (by walk_at "mine:sub")
    have z217 : @Ne Nat I 217 := by
      obtain ⟨o, ho⟩ := tabF_217 tab
      exact Ne.symm (off (217, o) (List.mem_append_left _ ho)).1
    have hold1 := Halt.of (And.intro off (And.intro H (And.intro Hi (And.intro rrow (And.intro hwl rab)))))
    have N3h := fun (_ : True) => N3
    clear N3 N1 off H Hi N rrow hwl rab
    repeat ((rename News _ _ _ _ => NQ); clear NQ)
    replace N3h := N3h trivial
    k_steps
    unfold Halt at hold1 ⊢
    refine item_strsN (by assumption) (by walk_at "mine:cmem") hks (by (first | exact om7 l0 hi | omega)) (by (first | exact om8 l0 | omega)) ?_ (by with_unfolding_all rfl)
    intro t5
    revert t5
    refine pk1 ?_; generalize pick1 _ _ = t5
    replace hold1 := Halt.of hold1
    k_steps
    unfold Halt at hold1 ⊢
    refine item_strsN (by assumption) (by walk_at "mine:cmem") hks (by (first | exact om7 l0 hui | omega)) (by (first | exact om8 l0 | omega)) ?_ (by with_unfolding_all rfl)
    intro t6
    revert t6
    refine pk1 ?_; generalize pick1 _ _ = t6
    replace hold1 := Halt.of hold1
    k_steps
    unfold Halt at hold1 ⊢
    refine PyProof.Rows.add_str ?_ (by rw [size_is]; have := hkl i; have := hkl ui; (first | exact om9 (by assumption) this | omega))
    intro _ _
    replace hold1 := Halt.of hold1
    k_steps
    unfold Halt at hold hold1 ⊢
    (rename News _ _ _ _ => N4)
    have N5 := newsSub N4 (tabF tab ++ ((L1 + 1 + 1 + 1 + 1 + 1 + 1 + 1 + 1 + 1 + 1, oc₁) :: (L1 + 1 + 1 + 1 + 1 + 1 + 1 + 1 + 1 + 1, c2) :: (L1 + 1 + 1 + 1 + 1 + 1 + 1 + 1 + 1, c3) :: (L1 + 1 + 1 + 1 + 1 + 1 + 1 + 1, c4) :: (L1 + 1 + 1 + 1 + 1, c7) :: (L1 + 1, c10) ::
      (lb, listOf vb.toArray nb) :: (lp, listOf vp.toArray np) :: (lk, listOf vk.toArray nk) :: (lt, listOf vt.toArray nt) :: (lr, listOf vr.toArray nr) :: (ly, listOf vy.toArray ny) :: (lwd, listOf vwd.toArray nwd) :: (lab, listOf vab.toArray nab) :: (I, it) :: news)) (by walk_at "mine:sub")
    refine found_tells w mean mg mb lr ly vr vy nr ny row ws hrow hws _ _ (by (first | exact om10 l1 | omega)) hold1.2.2.2.1 l2 hold1.2.2.2.2.1 (by rw [Str.length_append]; have := hkl i; have := hkl ui; (first | exact om11 (by assumption) this | omega)) (cl i) (cr i) (by have := hold1.2.2.1.le; have := hold1.2.2.1.le7; (first | exact om12 l1 (by assumption) this | omega)) (by have := hold1.2.2.1.le7; (first | exact om13 l1 this | omega)) hold1.2.2.1.hpl hold1.2.2.1.hpr tab hJ _ _ _ _ _ _ _ _ _ _ _ _ _ _ _ _ _ _ (by assumption) (by assumption) (by assumption) N5 (by assumption) rfl (by decide) (by decide) hold.1 (by walk_at "mine:cmem") (by walk_at "mine:cmem") (fun p hp => ?_) ?_
    · simp only [List.mem_cons] at hp
      rcases hp with rfl | rfl | rfl | rfl | rfl | rfl | hp | hp | hp | hp | hp | hp | hp | hp | rfl | hp
      · show @Ne Nat _ _; (first | exact om14 hlt | omega)
      · show @Ne Nat _ _; (first | exact om15 hlt | omega)
      · show @Ne Nat _ _; (first | exact om16 hlt | omega)
      · show @Ne Nat _ _; (first | exact om17 hlt | omega)
      · show @Ne Nat _ _; (first | exact om18 hlt | omega)
      · show @Ne Nat _ _; (first | exact om19 hlt | omega)
      · exact hold.2.2.2.2 p (by first | exact at_eq hp (by walk_at "mine:nth") | exact (by walk_at "mine:beh" : ∀ p ∈ _, p ∈ _) p hp)
      · exact hold.2.2.2.2 p (by first | exact at_eq hp (by walk_at "mine:nth") | exact (by walk_at "mine:beh" : ∀ p ∈ _, p ∈ _) p hp)
      · exact hold.2.2.2.2 p (by first | exact at_eq hp (by walk_at "mine:nth") | exact (by walk_at "mine:beh" : ∀ p ∈ _, p ∈ _) p hp)
      · exact hold.2.2.2.2 p (by first | exact at_eq hp (by walk_at "mine:nth") | exact (by walk_at "mine:beh" : ∀ p ∈ _, p ∈ _) p hp)
      · exact hold.2.2.2.2 p (by first | exact at_eq hp (by walk_at "mine:nth") | exact (by walk_at "mine:beh" : ∀ p ∈ _, p ∈ _) p hp)
      · exact hold.2.2.2.2 p (by first | exact at_eq hp (by walk_at "mine:nth") | exact (by walk_at "mine:beh" : ∀ p ∈ _, p ∈ _) p hp)
      · exact hold.2.2.2.2 p (by first | exact at_eq hp (by walk_at "mine:nth") | exact (by walk_at "mine:beh" : ∀ p ∈ _, p ∈ _) p hp)
      · exact hold.2.2.2.2 p (by first | exact at_eq hp (by walk_at "mine:nth") | exact (by walk_at "mine:beh" : ∀ p ∈ _, p ∈ _) p hp)
      · exact z217
      · exact hold.2.2.2.2 p (by first | exact at_eq hp (by walk_at "mine:nth") | exact (by walk_at "mine:beh" : ∀ p ∈ _, p ∈ _) p hp)
    intro lf tf1 tf2 tab' h7 tk7 htab' F7 N7 rf
    rename_i zv9
    revert htab' F7 N7 rf
    revert zv9 lf tf1 tf2 tab' h7 tk7
    refine pk7 ?_; generalize pick7 _ _ = zz; generalize zz.1 = zv9; generalize zz.2.1 = lf; generalize zz.2.2.1 = tf1; generalize zz.2.2.2.1 = tf2; generalize zz.2.2.2.2.1 = tab'; generalize zz.2.2.2.2.2.1 = h7; generalize zz.2.2.2.2.2.2 = tk7; clear zz
    intro htab' F7 N7 rf
    replace hold := Halt.of hold
    replace hold1 := Halt.of hold1
    have hrf := Halt.of rf
    have N8 := newsSub N7 ((lf, tupObj #[.int (cl i : Nat) tf1, .int (cr i : Nat) tf2]) :: (L1 + 1 + 1 + 1 + 1 + 1 + 1 + 1 + 1 + 1 + 1, oc₁) :: (L1 + 1 + 1 + 1 + 1 + 1 + 1 + 1 + 1 + 1, c2) :: (L1 + 1 + 1 + 1 + 1 + 1 + 1 + 1 + 1, c3) :: (L1 + 1 + 1 + 1 + 1 + 1 + 1 + 1, c4) :: (L1 + 1 + 1 + 1 + 1, c7) :: (L1 + 1, c10) ::
      (lb, listOf vb.toArray nb) :: (lp, listOf vp.toArray np) :: (lk, listOf vk.toArray nk) :: (lt, listOf vt.toArray nt) :: (lr, listOf vr.toArray nr) :: (ly, listOf vy.toArray ny) :: (lwd, listOf vwd.toArray nwd) :: (lab, listOf vab.toArray nab) :: (I, it) :: (tabF (some tab') ++ news)) (by walk_at "mine:sub")
    clear N4 N5 N7 rf
    k_steps
    unfold Halt
    
    walk_at "mine:unpk"
    k_steps
    unfold Halt
    rename_i zv12 zv11 zv10
    revert zv11 zv10
    revert zv12 tk
    refine pk2 ?_; generalize pick2 _ _ = zz; generalize zz.1 = zv12; generalize zz.2 = tk; clear zz
    intro _ _
    unfold Halt at hold hold1
    obtain ⟨ai, vi, ni, ei1, ei2, ei3⟩ := hold.2.2.2.1 i (by (first | exact om7 hvb hi | omega))
    obtain ⟨au, vu, nu, eu1, eu2, eu3⟩ := hold.2.2.2.1 ui (by (first | exact om7 hvb hui | omega))
    obtain ⟨qi, wi, mi, fi1, fi2, fi3⟩ := hold.2.2.1 i (by (first | exact om7 hvp hi | omega))
    obtain ⟨tz, hz0⟩ := ints_getD eu3 (i := 0) (by (first | exact om20 hbu | omega))
    obtain ⟨ts, hsl⟩ := ints_at ei3 hold1.2.2.1.sL
    obtain ⟨te, hsr⟩ := ints_at ei3 hold1.2.2.1.sR
    obtain ⟨tg, hgl⟩ : ∃ t, vu.getLast? = some (.int ((bs ui).getLastD 0) t) := by
      refine ints_last eu3 ?_
      cases e : (bs ui).getLast? with
      | none => rw [List.getLast?_eq_none_iff] at e; rw [e] at hbu; exact absurd hbu.2 (by decide)
      | some o => rw [List.getLastD_eq_getLast?, e]; rfl
    have cL8 : cutL i ≤ 100 := by have := hold1.2.2.1.cL; have := hold1.2.2.1.p7; (first | exact om21 (by assumption) this | omega)
    have cR8 : cutR i ≤ 100 := by have := hold1.2.2.1.cR; have := hold1.2.2.1.p7; (first | exact om21 (by assumption) this | omega)
    replace hold := Halt.of hold
    replace hold1 := Halt.of hold1
    refine item_ledR (by assumption) (by walk_at "mine:cmem") (by (first | exact om22 hi | omega)) ei1 ?_ (by with_unfolding_all rfl)
    k_steps
    unfold Halt
    revert ei1 ei2 ei3 hsl hsr
    revert ai vi ni ts te
    refine pk5 ?_; generalize pick5 _ _ = zz; generalize zz.1 = ai; generalize zz.2.1 = vi; generalize zz.2.2.1 = ni; generalize zz.2.2.2.1 = ts; generalize zz.2.2.2.2 = te; clear zz
    intro ei1 ei2 ei3 hsl hsr
    refine item_ledR (by assumption) (by walk_at "mine:cmem") (by (first | exact om22 hi | omega)) fi1 ?_ (by with_unfolding_all rfl)
    k_steps
    unfold Halt
    revert fi1 fi2 fi3
    revert qi wi mi
    refine pk3 ?_; generalize pick3 _ _ = zz; generalize zz.1 = qi; generalize zz.2.1 = wi; generalize zz.2.2 = mi; clear zz
    intro fi1 fi2 fi3
    refine item_ledR (by assumption) (by walk_at "mine:cmem") (by (first | exact om22 hui | omega)) eu1 ?_ (by with_unfolding_all rfl)
    k_steps
    unfold Halt
    revert eu1 eu2 eu3 hz0 hgl
    revert au vu nu tz tg
    refine pk5 ?_; generalize pick5 _ _ = zz; generalize zz.1 = au; generalize zz.2.1 = vu; generalize zz.2.2.1 = nu; generalize zz.2.2.2.1 = tz; generalize zz.2.2.2.2 = tg; clear zz
    intro eu1 eu2 eu3 hz0 hgl
    refine item_tailR (k := 0) (by assumption) (by walk_at "mine:cmem"; exact List.mem_append_right _ eu2) (by (first | exact om23 | omega)) hz0 ?_ (by with_unfolding_all rfl)
    k_steps
    unfold Halt at hold1 ⊢
    refine bisL_i w mean mg mb qi wi (ps i) mi _ tz (cutL i) fi3 hold1.2.2.1.p7 hold1.2.2.1.cL hold1.2.2.1.pL _ _ _ _ _ _ _ _ _ _ _ _ _ _ _ _ _ _ (by assumption) (by assumption) (by assumption) (by assumption) (by assumption) rfl (by decide) (by decide) (by walk_at "mine:cmem"; exact List.mem_append_right _ fi2) ?_
    intro t9 h9 tk9 F9 N9
    revert F9 N9
    revert t9 h9 tk9
    refine pk3 ?_; generalize pick3 _ _ = zz; generalize zz.1 = t9; generalize zz.2.1 = h9; generalize zz.2.2 = tk9; clear zz
    intro F9 N9
    replace hold1 := Halt.of hold1
    k_steps
    unfold Halt
    
    refine item_tailR (by assumption) (by walk_at "mine:cmem"; exact List.mem_append_right _ ei2) cL8 hsl ?_ (by with_unfolding_all rfl)
    k_steps
    unfold Halt
    rename_i zv15 zv14 zv13
    revert zv14 zv13
    revert zv15 tk
    refine pk2 ?_; generalize pick2 _ _ = zz; generalize zz.1 = zv15; generalize zz.2 = tk; clear zz
    intro _ _
    refine item_ledR (by assumption) (by walk_at "mine:cmem") (by (first | exact om22 hi | omega)) ei1 ?_ (by with_unfolding_all rfl)
    k_steps
    unfold Halt
    
    refine item_ledR (by assumption) (by walk_at "mine:cmem") (by (first | exact om22 hi | omega)) fi1 ?_ (by with_unfolding_all rfl)
    k_steps
    unfold Halt
    
    refine item_ledR (by assumption) (by walk_at "mine:cmem") (by (first | exact om22 hui | omega)) eu1 ?_ (by with_unfolding_all rfl)
    k_steps
    unfold Halt
    
    refine item_lastR (by assumption) (by walk_at "mine:cmem"; exact List.mem_append_right _ eu2) hgl ?_ (by with_unfolding_all rfl)
    k_steps
    unfold Halt
    
    refine PyProof.Rows.sub_int ?_
    k_steps
    unfold Halt at hold1 ⊢
    refine bisR_i w mean mg mb qi wi (ps i) mi _ _ (cutR i) fi3 hold1.2.2.1.p7 hold1.2.2.1.cR hold1.2.2.1.pR _ _ _ _ _ _ _ _ _ _ _ _ _ _ _ _ _ _ (by assumption) (by assumption) (by assumption) (by assumption) (by assumption) rfl (by decide) (by decide) (by walk_at "mine:cmem"; exact List.mem_append_right _ fi2) ?_
    intro t10 h10 tk10 F10 N10
    revert F10 N10
    revert t10 h10 tk10
    refine pk3 ?_; generalize pick3 _ _ = zz; generalize zz.1 = t10; generalize zz.2.1 = h10; generalize zz.2.2 = tk10; clear zz
    intro F10 N10
    replace hold1 := Halt.of hold1
    k_steps
    unfold Halt
    
    refine item_tailR (by assumption) (by walk_at "mine:cmem"; exact List.mem_append_right _ ei2) cR8 hsr ?_ (by with_unfolding_all rfl)
    k_steps
    unfold Halt
    rename_i zv18 zv17 zv16
    revert zv17 zv16
    revert zv18 tk
    refine pk2 ?_; generalize pick2 _ _ = zz; generalize zz.1 = zv18; generalize zz.2 = tk; clear zz
    intro _ _
    (rename Fr _ _ _ _ => FS)
    refine LCt.Assign_ListComp_T (F₀ := FS) (by rfl) (by with_unfolding_all rfl) (by with_unfolding_all rfl) (by decide) (by rfl) (by decide) (by rfl) (by rfl) (by rfl) ?_
    k_steps
    unfold Halt
    rename_i zv27 zv26 zv25 zv24 zv23 zv22 zv21 zv20 zv19
    revert zv22 zv21 zv20 zv19
    revert zv27 zv26 zv25 zv24 zv23
    refine pk5 ?_; generalize pick5 _ _ = zz; generalize zz.1 = zv27; generalize zz.2.1 = zv26; generalize zz.2.2.1 = zv25; generalize zz.2.2.2.1 = zv24; generalize zz.2.2.2.2 = zv23; clear zz
    intro _ _ _ _
    (rename News _ _ _ _ => NS)
    obtain ⟨nwS, hnwS⟩ := newsIs NS
    refine LCt.CompSrcT.range (n := 6) rfl (by assumption) NS (by assumption) (by decide) (by decide) (by decide) ?_
    intro g
    revert g
    refine pk1 ?_; generalize pick1 _ _ = g
    refine compT_inv (fun j ys nw => (∃ zs, IntsAre ys zs ∧ zs = (rangeKs 1 j).filter (suchAt ab wd ks i ui)) ∧ nw = nwS) ⟨⟨[], .nil, rfl⟩, hnwS.symm⟩ ?_ ?_
    · intro j ys nw v' I2 oI2 C oC D m₂ h12 tk12 E12 hj hJ2 hv' hC hx F12 N12 off12 ne12
      revert hnwS hj hJ2 hv' hC hx F12 N12 off12 ne12
      revert nwS j ys nw v' I2 oI2 C oC D m₂ h12 tk12 E12
      refine pk12 ?_; generalize pick12 _ _ = zz; generalize zz.1 = nwS; generalize zz.2.1 = j; generalize zz.2.2.1 = ys; generalize zz.2.2.2.1 = nw; generalize zz.2.2.2.2.1 = v'; generalize zz.2.2.2.2.2.1 = I2; generalize zz.2.2.2.2.2.2.1 = oI2; generalize zz.2.2.2.2.2.2.2.1 = C; generalize zz.2.2.2.2.2.2.2.2.1 = oC; generalize zz.2.2.2.2.2.2.2.2.2.1 = D; generalize zz.2.2.2.2.2.2.2.2.2.2.1 = m₂; generalize zz.2.2.2.2.2.2.2.2.2.2.2 = h12; clear zz
      refine pk2 ?_; generalize pick2 _ _ = zz; generalize zz.1 = tk12; generalize zz.2 = E12; clear zz
      intro hnwS hj hJ2 hv' hC hx F12 N12 off12 ne12
      obtain ⟨⟨zs, hz1, hz2⟩, rfl⟩ := hJ2
      obtain ⟨t12, rfl⟩ := hv'
      rw [hnwS] at N12 off12
      obtain ⟨kn, hkn⟩ : ∃ kn : Nat, (1 : Int) + (j : Int) = (kn : Int) := ⟨1 + j, by (first | exact om24 | omega)⟩
      rw [hkn] at hx
      have hzs : (rangeKs 1 (j + 1)).filter (suchAt ab wd ks i ui) = if suchAt ab wd ks i ui (kn : Int) = true then zs ++ [(kn : Int)] else zs := by
        have e : rangeKs 1 (j + 1) = rangeKs 1 j ++ [(1 : Int) + (j : Int)] := by unfold rangeKs; rw [List.range_succ, List.map_append]; rfl
        rw [e, List.filter_append, hz2, hkn]
        simp only [List.filter_cons, List.filter_nil]
        split <;> simp
      unfold Halt at hold1
      have hra := hold1.2.2.2.2.2 kn (by (first | exact om25 hj hkn | omega)) (by (first | exact om26 hj hkn | omega))
      replace hold1 := Halt.of hold1
      have fal : ∀ (s₁ : Shared) (tk₁ : Nat), suchAt ab wd ks i ui (kn : Int) = false → LCg.CompEnd h₀ L1 _ s₁ I2 oI2 C oC D (LCg.lst ys) (fun _ => True) (fun _ nw' => (∃ zs, IntsAre ys zs ∧ zs = (rangeKs 1 (j + 1)).filter (suchAt ab wd ks i ui)) ∧ nw' = nw) Value.none { s₁ with heap := h12, toks := tk₁ } := fun s₁ tk₁ hf =>
        LCg.CompEnd.intro F12 N12 _ (fun p hp => hp) off12 trivial ⟨⟨zs, hz1, by rw [hzs, if_neg (by rw [hf]; simp)]⟩, hnwS.symm⟩
      k_steps
      unfold Halt
      
      walk_at "mine:nmo"
      k_steps
      unfold Halt
      revert hz1 hz2 hx hkn hzs hra fal
      revert zs t12 kn
      refine pk3 ?_; generalize pick3 _ _ = zz; generalize zz.1 = zs; generalize zz.2.1 = t12; generalize zz.2.2 = kn; clear zz
      intro hz1 hz2 hx hkn hzs hra fal
      walk_at "mine:nmc"
      k_steps
      unfold Halt
      
      refine in_list_ints ⟨_, (N12 (lab, listOf vab.toArray nab) (by walk_at "mine:cmem")).1, rfl, _, rfl⟩ hab ?_
      k_steps
      · unfold Halt
        (rename (ab.any _) = true => hA)
        walk_at "mine:nmc"
        k_steps
        unfold Halt
        
        walk_at "mine:nmo"
        k_steps
        unfold Halt
        
        refine item_strsN N12 (by walk_at "mine:cmem") hwd (by (first | exact om27 l4 hj hkn | omega)) (by (first | exact om28 l4 | omega)) ?_ (by with_unfolding_all rfl)
        intro t13
        revert t13
        refine pk1 ?_; generalize pick1 _ _ = t13
        k_steps
        unfold Halt
        
        walk_at "mine:nmc"
        k_steps
        unfold Halt
        
        walk_at "mine:nmc"
        k_steps
        unfold Halt
        
        refine item_strsN N12 (by walk_at "mine:cmem") hks (by (first | exact om7 l0 hi | omega)) (by (first | exact om8 l0 | omega)) ?_ (by with_unfolding_all rfl)
        intro t14
        revert t14
        refine pk1 ?_; generalize pick1 _ _ = t14
        k_steps
        · unfold Halt
          (rename (wd.getD kn _ == _) = true => hB2)
          walk_at "mine:nmc"
          k_steps
          unfold Halt
          
          walk_at "mine:nmc"
          k_steps
          unfold Halt
          
          walk_at "mine:nmo"
          k_steps
          unfold Halt
          
          refine item_intsN N12 (by walk_at "mine:cmem") hab (by (first | exact om27 l3 hj hkn | omega)) (by (first | exact om28 l3 | omega)) ?_ (by with_unfolding_all rfl)
          intro t15
          revert t15
          refine pk1 ?_; generalize pick1 _ _ = t15
          k_steps
          unfold Halt
          
          refine item_strs N12 (by walk_at "mine:cmem") hwd (by (first | exact om29 hra | omega)) (by (first | exact om30 l4 hra | omega)) (by (first | exact om31 hra | omega)) ?_ (by with_unfolding_all rfl)
          intro t16
          revert t16
          refine pk1 ?_; generalize pick1 _ _ = t16
          k_steps
          unfold Halt
          
          walk_at "mine:nmc"
          k_steps
          unfold Halt
          
          walk_at "mine:nmc"
          k_steps
          unfold Halt
          
          refine item_strsN N12 (by walk_at "mine:cmem") hks (by (first | exact om7 l0 hui | omega)) (by (first | exact om8 l0 | omega)) ?_ (by with_unfolding_all rfl)
          intro t17
          revert t17
          refine pk1 ?_; generalize pick1 _ _ = t17
          k_steps
          · unfold Halt
            (rename (wd.getD (ab.getD kn 0).toNat _ == _) = true => hC2)
            walk_at "mine:nmo"
            k_steps
            refine LCg.CompEnd.intro F12 N12 _ (fun p hp => hp) off12 trivial ⟨⟨zs ++ [(kn : Int)], ?_, ?_⟩, hnwS.symm⟩
            · exact IntsAre.snoc hz1 _ _
            · rw [hzs, if_pos (by unfold suchAt; rw [Int.toNat_natCast, hA, hB2, hC2]; rfl)]
          · (rename (wd.getD (ab.getD kn 0).toNat _ == _) = false => hC2)
            exact fal _ _ (by unfold suchAt; rw [Int.toNat_natCast, hC2, Bool.and_false])
        · (rename (wd.getD kn _ == _) = false => hB2)
          exact fal _ _ (by unfold suchAt; rw [Int.toNat_natCast, hB2, Bool.and_false, Bool.false_and])
      · (rename (ab.any _) = false => hA)
        exact fal _ _ (by unfold suchAt; rw [hA, Bool.false_and, Bool.false_and])
    · intro ys nw hJ2
      revert hnwS hJ2
      revert nwS ys nw
      refine pk3 ?_; generalize pick3 _ _ = zz; generalize zz.1 = nwS; generalize zz.2.1 = ys; generalize zz.2.2 = nw; clear zz
      intro hnwS hJ2
      obtain ⟨⟨zs, hz1, hz2⟩, rfl⟩ := hJ2
      intro D h12 tk12 F12 N12 off12
      rw [hnwS] at N12 off12
      k_steps
      unfold Halt
      rename_i zv35 zv34 zv33 zv32 zv31 zv30 zv29 zv28
      revert off12 zv33 zv30 zv29 zv28
      revert D tk12 zv35 zv34 zv32 zv31
      refine pk6 ?_; generalize pick6 _ _ = zz; generalize zz.1 = D; generalize zz.2.1 = tk12; generalize zz.2.2.1 = zv35; generalize zz.2.2.2.1 = zv34; generalize zz.2.2.2.2.1 = zv32; generalize zz.2.2.2.2.2 = zv31; clear zz
      intro off12 _ _ _ _
      (rename News _ _ _ _ => NT)
      refine ints_ne NT (.tail _ (.head _)) (.head _) (by exact Nat.le_of_ble_eq_true rfl) ?_
      k_steps
      unfold Halt at hold hold1 ⊢
      have hle := hold1.2.2.1.le
      have hle7 := hold1.2.2.1.le7
      have hcnt := hold1.2.2.1.cnt
      rw [← hz2] at hcnt
      have hrw := hold.2.1
      have hoff := hold1.1
      replace hold := Halt.of hold
      replace hold1 := Halt.of (And.intro hcnt (And.intro hrw hoff))
      clear hcnt hrw hoff
      (rename Fr _ _ _ _ => FT)
      refine LCt.ListComp_T (F₀ := FT) (by with_unfolding_all rfl) (by decide) (by rfl) (by decide) (by rfl) ?_
      k_steps
      unfold Halt
      rename_i zv44 zv43 zv42 zv41 zv40 zv39 zv38 zv37 zv36
      revert zv39 zv38 zv37 zv36
      revert zv44 zv43 zv42 zv41 zv40
      refine pk5 ?_; generalize pick5 _ _ = zz; generalize zz.1 = zv44; generalize zz.2.1 = zv43; generalize zz.2.2.1 = zv42; generalize zz.2.2.2.1 = zv41; generalize zz.2.2.2.2 = zv40; clear zz
      intro _ _ _ _
      (rename News _ _ _ _ => NU)
      obtain ⟨nwU, hnwU⟩ := newsIs NU
      refine LCt.CompSrcT.range (n := cr i - cl i) rfl (by assumption) NU (by assumption) (range_small (by (first | exact om32 | omega)) (by (first | exact om33 hle hle7 | omega)) (by (first | exact om34 hle7 | omega)) (by (first | exact om35 hle7 | omega))) (range_size (by (first | exact om36 hle | omega))) (by rw [size_is]; (first | exact om37 hle hle7 | omega)) ?_
      intro g
      revert g
      refine pk1 ?_; generalize pick1 _ _ = g
      refine compT_inv (fun j ys nw => (∃ zs, IntsAre ys zs ∧ zs = (rangeKs (cl i : Int) j).filter (lastAt tb)) ∧ nw = nwU) ⟨⟨[], .nil, rfl⟩, hnwU.symm⟩ ?_ ?_
      · intro j ys2 nw2 v' I3 oI3 C3 oC3 D3 m₃ h15 tk15 E15 hj hJ2 hv' hC3 hx3 F15 N15 off15 ne15
        revert hnwU hj hJ2 hv' hC3 hx3 F15 N15 off15 ne15
        revert nwU j ys2 nw2 v' I3 oI3 C3 oC3 D3 m₃ h15 tk15 E15
        refine pk12 ?_; generalize pick12 _ _ = zz; generalize zz.1 = nwU; generalize zz.2.1 = j; generalize zz.2.2.1 = ys2; generalize zz.2.2.2.1 = nw2; generalize zz.2.2.2.2.1 = v'; generalize zz.2.2.2.2.2.1 = I3; generalize zz.2.2.2.2.2.2.1 = oI3; generalize zz.2.2.2.2.2.2.2.1 = C3; generalize zz.2.2.2.2.2.2.2.2.1 = oC3; generalize zz.2.2.2.2.2.2.2.2.2.1 = D3; generalize zz.2.2.2.2.2.2.2.2.2.2.1 = m₃; generalize zz.2.2.2.2.2.2.2.2.2.2.2 = h15; clear zz
        refine pk2 ?_; generalize pick2 _ _ = zz; generalize zz.1 = tk15; generalize zz.2 = E15; clear zz
        intro hnwU hj hJ2 hv' hC3 hx3 F15 N15 off15 ne15
        obtain ⟨⟨zs2, hy1, hy2⟩, rfl⟩ := hJ2
        obtain ⟨t15, rfl⟩ := hv'
        rw [hnwU] at N15 off15
        obtain ⟨kn, hkn⟩ : ∃ kn : Nat, (cl i : Int) + (j : Int) = (kn : Int) := ⟨cl i + j, by (first | exact om38 | omega)⟩
        rw [hkn] at hx3
        obtain ⟨⟨nm2, la, inn⟩, hr⟩ : ∃ r, tb[kn]? = some r := ⟨_, List.getElem?_eq_getElem (by (first | exact om39 l5 hle hle7 hj ne15 hkn | omega))⟩
        have hzs2 : (rangeKs (cl i : Int) (j + 1)).filter (lastAt tb) = if la = true then zs2 ++ [(kn : Int)] else zs2 := by
          have e : rangeKs (cl i : Int) (j + 1) = rangeKs (cl i : Int) j ++ [(cl i : Int) + (j : Int)] := by unfold rangeKs; rw [List.range_succ, List.map_append]; rfl
          rw [e, List.filter_append, hy2, hkn]
          simp only [List.filter_cons, List.filter_nil, lastAt, Int.toNat_natCast, hr]
          split <;> simp
        unfold Halt at hold1
        obtain ⟨ra, rt, hra, mra⟩ := hold1.2.1 kn _ hr
        dsimp only at mra
        replace hold1 := Halt.of hold1
        k_steps
        unfold Halt
        
        walk_at "mine:nmc"
        k_steps
        unfold Halt
        
        walk_at "mine:nmo"
        k_steps
        unfold Halt
        revert hy1 hy2 hx3 hkn hr hzs2 hra mra
        revert zs2 t15 kn nm2 la inn ra rt
        refine pk8 ?_; generalize pick8 _ _ = zz; generalize zz.1 = zs2; generalize zz.2.1 = t15; generalize zz.2.2.1 = kn; generalize zz.2.2.2.1 = nm2; generalize zz.2.2.2.2.1 = la; generalize zz.2.2.2.2.2.1 = inn; generalize zz.2.2.2.2.2.2.1 = ra; generalize zz.2.2.2.2.2.2.2 = rt; clear zz
        intro hy1 hy2 hx3 hkn hr hzs2 hra mra
        refine item_ledR N15 (by walk_at "mine:cmem") (by (first | exact om40 hle hle7 hj ne15 hkn | omega)) hra ?_ (by with_unfolding_all rfl)
        k_steps
        unfold Halt
        
        refine item_tupleT (News.isTup N15 (by walk_at "mine:cmem"; exact List.mem_append_right _ mra)) (by decide) (by decide) rfl rfl ?_ (by with_unfolding_all rfl)
        k_steps
        · unfold Halt
          (rename la = true => hla)
          walk_at "mine:nmo"
          k_steps
          refine LCg.CompEnd.intro F15 N15 _ (fun p hp => hp) off15 trivial ⟨⟨zs2 ++ [(kn : Int)], ?_, by rw [hzs2, if_pos hla]⟩, hnwU.symm⟩
          exact IntsAre.snoc hy1 _ _
        · (rename la = false => hla)
          exact LCg.CompEnd.intro F15 N15 _ (fun p hp => hp) off15 trivial ⟨⟨zs2, hy1, by rw [hzs2, if_neg (by rw [hla]; simp)]⟩, hnwU.symm⟩
      · intro ys2 nw2 hJ2
        revert hnwU hJ2
        revert nwU ys2 nw2
        refine pk3 ?_; generalize pick3 _ _ = zz; generalize zz.1 = nwU; generalize zz.2.1 = ys2; generalize zz.2.2 = nw2; clear zz
        intro hnwU hJ2
        obtain ⟨⟨zs2, hy1, hy2⟩, rfl⟩ := hJ2
        intro D4 h15 tk15 F15 N15 off15
        rw [hnwU] at N15 off15
        k_steps
        unfold Halt at hold1 ⊢
        have lz : zs2.length = zs.length := by rw [hy2]; exact hold1.1
        have bz : zs.length ≤ 7 := by
          rw [← lz, hy2]
          exact Nat.le_trans (List.length_filter_le _ _) (by rw [rangeKs_length]; (first | exact om41 hle hle7 | omega))
        have e1 := ints_len hy1
        have e2 := ints_len hz1
        refine len_list ⟨_, (N15 _ (.head _)).1, rfl, _, rfl⟩ (by rw [List.size_toArray]; (first | exact om42 hold1 lz bz e1 e2 | omega)) ?_
        rw [show ((ys2.toArray.size : Nat) : Int) = (zs.length : Int) by rw [List.size_toArray]; (first | exact om43 lz e1 | omega)]
        k_steps
        unfold Halt
        revert hz1 hz2 hold1 hy1 hy2 F15 N15 off15 lz bz e1 e2
        revert zs zs2 D4 h15 tk15
        refine pk5 ?_; generalize pick5 _ _ = zz; generalize zz.1 = zs; generalize zz.2.1 = zs2; generalize zz.2.2.1 = D4; generalize zz.2.2.2.1 = h15; generalize zz.2.2.2.2 = tk15; clear zz
        intro hz1 hz2 hold1 hy1 hy2 F15 N15 off15 lz bz e1 e2
        refine len_list ⟨_, (N15 (D, LCg.lst ys) (by walk_at "mine:cmem")).1, rfl, _, rfl⟩ (by rw [List.size_toArray]; (first | exact om44 hold1 lz bz e1 e2 | omega)) ?_
        rw [show ((ys.toArray.size : Nat) : Int) = (zs.length : Int) by rw [List.size_toArray]; (first | exact om45 lz e1 e2 | omega)]
        k_steps
        unfold Halt
        
        refine PyProof.Rows.ne_int ?_
        rw [show ((zs.length : Int) != (zs.length : Int)) = false by simp]
        k_steps
        (rename News _ _ _ _ => NZ)
        refine CEnd.st (c := L1 + 1 + 1 + 1 + 1 + 1 + 1 + 1 + 1 + 1 + 1) (I := I) (it := it) (some tab') (by assumption) NZ (by walk_at "mine:cmem") hoc (fun p hp => ?_) (by walk_at "mine:cmem") (fun p hp => ?_) htab' (List.forall_mem_nil _) ?_
        · rcases List.mem_append.mp hp with hp | hp
          · exact tab_off NZ htab' (fun p hp => by simp only [List.mem_cons, List.mem_append]; simp [hp]) (by walk_at "mine:cmem") hit (by walk_at "mine:cmem") hoc z217 (by show @Ne Nat _ _; (first | exact om14 hlt | omega)) p hp
          · exact hold1.2.2 p (List.mem_append_right _ hp)
        · (revert p; walk_at "mine:sub")
        · intro z z1 z2 z3
          have q1 : z ≠ Str.ofString "low" := by rintro rfl; revert z3; decide
          have q2 : z ≠ Str.ofString "high" := by rintro rfl; revert z3; decide
          have q3 : z ≠ Str.ofString "start" := by rintro rfl; revert z3; decide
          have q4 : z ≠ Str.ofString "end" := by rintro rfl; revert z3; decide
          have q5 : z ≠ Str.ofString "such" := by rintro rfl; revert z3; decide
          simp only [q1, q2, q3, q4, q5, z1, z3, if_false, Bool.false_eq_true]
  case done =>
    intro tab u h tk oc₁ v₁ hJ hoc F1 N1
    revert hJ hoc F1 N1
    revert tab u h tk oc₁ v₁
    refine pk6 ?_; generalize pick6 _ _ = zz; generalize zz.1 = tab; generalize zz.2.1 = u; generalize zz.2.2.1 = h; generalize zz.2.2.2.1 = tk; generalize zz.2.2.2.2.1 = oc₁; generalize zz.2.2.2.2.2 = v₁; clear zz
    intro hJ hoc F1 N1
    dsimp only [kstB] at F1
    replace F1 : Fr _ L1 _ _ := F1
    have F1h := fun (_ : True) => F1
    have N1h := fun (_ : True) => N1
    k_steps
    obtain ⟨ps', hps⟩ : ∃ ps', ((217, tabObj ps') : Addr × Obj) ∈ tabF tab := by
      cases tab with
      | none => exact ⟨_, .head _⟩
      | some p => obtain ⟨⟨a, b⟩, ⟨c, d⟩⟩ := p; exact ⟨_, .head _⟩
    refine hnext _ _ ps' ⟨rfl, rfl, fun x => x⟩ (F1h trivial) (newsSub (N1h trivial) _ (fun p hp => ?_))
    rcases List.mem_cons.mp hp with rfl | hp
    · first | exact List.mem_append_left _ hps | simp [hps]
    · first | exact List.mem_append_right _ (List.mem_append_right _ hp) | simp [hp]
end

end Mine
end

section
open PySem PySem.W PyProof.Rows PySem.Calls PySem.Spec
namespace Mine
/-- what an old place shows at the end: itself, or a code table that has grown -/
noncomputable def OldOr (h h' : Heap) (b : Addr) (o : Obj) : Prop := h'.get? b = some o ∨ (isCodeTable h b ∧ o = tabObj #[] ∧ ∃ ps, h'.get? b = some (tabObj ps))
theorem oldOr_of {h h' : Heap} {tabs : List (Addr × Addr)} (hT : TabsAt tabs h) (hk : ∀ x o, (ghostOf h tabs).get? x = some o → h'.get? x = some o) (hgr : GrownAll tabs h') {b : Addr} {o : Obj} (e : h.get? b = some o) : OldOr h h' b o := by
  rcases Classical.em (b ∈ tabs.map Prod.snd) with hb | hb
  · obtain ⟨⟨c, P⟩, hq, e1⟩ := List.mem_map.mp hb
    have e1 : P = b := e1
    subst e1
    have t := hT _ hq
    exact .inr ⟨(t.1.tab t.2).isCodeTable, Option.some.inj (e.symm.trans t.2), hgr.get _ hq⟩
  · exact .inl (hk b o (ghost_ne e hb))
theorem oldK_of {h h' : Heap} (H : ∀ b o, h.get? b = some o → OldOr h h' b o) : OldK h h' := by
  constructor
  · intro b o e
    rcases H b o e with k | ⟨t, rfl, ps, k⟩
    · exact .inl k
    · exact .inr (.inl ⟨t, rfl, #[], ps, rfl, k.trans (congrArg (fun x => some (tabObj x)) Array.empty_append.symm)⟩)
  · intro b o e
    rcases H b o e with k | ⟨_, _, ps, k⟩
    · exact ⟨_, k⟩
    · exact ⟨_, k⟩
/-- the end of a law whose generators are all run out: an answer that is a bool, the old heap kept but for the tables -/
noncomputable def EndB (cw : ClaimW) (args : List WData) (s₁ : Shared) (tabs : List (Addr × Addr)) (r : Result) (s' : Shared) : Prop :=
  (∃ b, r = .ok (.ret (.bool b)) ∧ cw.post args (.bool b) args = true) ∧ (∀ x o, (ghostOf s₁.heap tabs).get? x = some o → s'.heap.get? x = some o) ∧ s'.os = s₁.os ∧ AllBare s'.gens ∧ GrownAll tabs s'.heap
theorem end_bare {M : Model} {A : Around} {cd : Code} {s s₁ : Shared} {cw : ClaimW} {cl : PySem.Str → Option Addr} {mean : ExcName → Option Value} {args : List WData} {tabs : List (Addr × Addr)} (hT : TabsAt tabs s₁.heap) (hr : ∀ a x, cw.raises a x = false)
    (h : codeAny M A cd (EndB cw args s₁ tabs) s) : codeAny M A cd (GoodWG cw cl mean args s₁) s := by
  refine codeAny_mono h ?_
  rintro r s' ⟨⟨bb, rfl, e2⟩, hk, hos, hg, hgr⟩
  refine ⟨Or.inl ⟨_, _, [], rfl, fun x => hr _ x, ReadsW.bool bb, e2, ?_⟩, oldK_of (fun b o e => oldOr_of hT hk hgr e), hos, hg⟩
  intro _
  exact ⟨List.nodup_nil, fun a ha => absurd ha List.not_mem_nil⟩
end Mine
end

section
open PySem PySem.W PyProof.Rows PySem.Calls PySem.Spec
namespace Mine
theorem Apart.sub {L1 : Addr} {l l' : List (Addr × Obj)} (h : Apart L1 l) (hs : ∀ p ∈ l', p ∈ l) : Apart L1 l' := fun p hp => h p (hs p hp)
theorem noGen_of {L1 : Addr} {c1 c2 c3 c4 c5 c6 c7 c8 c9 c10 : Obj} {r : List (Addr × Obj)} (hcs : ∀ p ∈ cells10 L1 c1 c2 c3 c4 c5 c6 c7 c8 c9 c10 [], ∃ v, p.2.data = .cell v) (hr : NoGen r) : NoGen (cells10 L1 c1 c2 c3 c4 c5 c6 c7 c8 c9 c10 r) := by
  intro p hp
  have h : p ∈ cells10 L1 c1 c2 c3 c4 c5 c6 c7 c8 c9 c10 [] ∨ p ∈ r := List.mem_append.mp (show p ∈ cells10 L1 c1 c2 c3 c4 c5 c6 c7 c8 c9 c10 [] ++ r from hp)
  rcases h with h | h
  · obtain ⟨v, e⟩ := hcs p h
    exact noGen_cell e
  · exact hr p h
theorem cells_of {L1 : Addr} {c1 c2 c3 c4 c5 c6 c7 c8 c9 c10 : Obj} {v1 v2 v3 v4 v5 v6 v7 v8 v9 v10 : Option Value} (e1 : c1.data = .cell v1) (e2 : c2.data = .cell v2) (e3 : c3.data = .cell v3) (e4 : c4.data = .cell v4) (e5 : c5.data = .cell v5) (e6 : c6.data = .cell v6) (e7 : c7.data = .cell v7) (e8 : c8.data = .cell v8) (e9 : c9.data = .cell v9) (e10 : c10.data = .cell v10) :
    ∀ p ∈ cells10 L1 c1 c2 c3 c4 c5 c6 c7 c8 c9 c10 [], ∃ v, p.2.data = .cell v := by
  intro p hp
  simp only [cells10, List.mem_cons, List.not_mem_nil, or_false] at hp
  rcases hp with rfl | rfl | rfl | rfl | rfl | rfl | rfl | rfl | rfl | rfl
  · exact ⟨_, e1⟩
  · exact ⟨_, e2⟩
  · exact ⟨_, e3⟩
  · exact ⟨_, e4⟩
  · exact ⟨_, e5⟩
  · exact ⟨_, e6⟩
  · exact ⟨_, e7⟩
  · exact ⟨_, e8⟩
  · exact ⟨_, e9⟩
  · exact ⟨_, e10⟩
theorem noGen_tab {r : List (Addr × Obj)} {a : Addr} {vs : Array Value} (h : NoGen r) : NoGen ((a, tabObj vs) :: r) := by
  intro p hp
  rcases List.mem_cons.mp hp with rfl | hp
  · rintro ⟨h, _⟩
    rcases h with h | h | h <;> cases h
  · exact h p hp
theorem ne_of_objs {h₀ h : Heap} {L a b : Addr} {oa ob : Obj} {l : List (Addr × Obj)} (N : News h₀ L h l) (ha : (a, oa) ∈ l) (hb : (b, ob) ∈ l) (hne : oa.cls ≠ ob.cls) : a ≠ b := by
  rintro rfl
  have e := ((N _ ha).1.symm.trans (N _ hb).1)
  exact hne (congrArg Obj.cls (Option.some.inj e))
theorem RefsAre.mono {more more' : List (Addr × Obj)} {vp : List Value} {ps : Nat → List Int} (h : RefsAre more vp ps) (hs : ∀ (a : Addr) (va : List Value) (na : Nat), (a, listOf va.toArray na) ∈ more → (a, listOf va.toArray na) ∈ more') : RefsAre more' vp ps := by
  intro j hj
  obtain ⟨a, va, na, e1, e2, e3⟩ := h j hj
  exact ⟨a, va, na, e1, hs _ _ _ e2, e3⟩
theorem kinds_short (hand : Int) (i : Nat) : ((kindsF hand).getD i (Str.ofString "")).length ≤ 6 := by
  have h : ∀ y ∈ kindsF hand, y.length ≤ 6 := by
    unfold kindsF
    split
    · decide
    split
    · decide
    · decide
  rw [List.getD_eq_getElem?_getD]
  cases e : (kindsF hand)[i]? with
  | none => rw [Option.getD_none]; decide
  | some y => exact h y (List.mem_of_getElem? e)
theorem law_all (w : World) (mean : ExcName → Option Value) (mg mb : PySem.Str → Option Value) (lsc : Addr) (vsc : List Value) (sc : List Int) (hsc : IntsAre vsc sc) (hlen : sc.length ≤ 63) :
  ∀ (fa : Addr) (cd : Value) (L1 : Addr) (h₀ : Heap) (s : Shared) (u : PySem.Str → Option Value) (c1 c2 c3 c4 c5 c6 c7 c8 c9 c10 : Obj) (Q' : Flow → Shared → Prop) (E' : Value → Shared → Prop),
    Below callerA h₀ [] h₀ → Fr h₀ L1 s.heap (kstB u [(Str.ofString "script", .ref lsc)]) → (Mine.hd.heap_39 w.params).In h₀ → CodeHd h₀ 202 198 → CodeHd h₀ 221 217 →
    News h₀ L1 s.heap (cells10 L1 c1 c2 c3 c4 c5 c6 c7 c8 c9 c10 [(198, tabObj #[]), (217, tabObj #[])]) → c1.data = .cell none → c2.data = .cell none → c3.data = .cell none → c4.data = .cell none → c5.data = .cell none → c6.data = .cell none → c7.data = .cell none → c8.data = .cell none → c9.data = .cell none → c10.data = .cell none →
    Top topProg lzz mean mg mb h₀ → h₀.IsList lsc vsc.toArray → @LT.lt Nat _ 198 L1 → @LT.lt Nat _ 217 L1 →
    (∀ (s' : Shared) m', SameX s s' → Fr h₀ L1 s'.heap m' → GrownAt 198 s'.heap → GrownAt 217 s'.heap → Q' (.ret (.bool true)) s') →
    wpAny (model Challenge.rw_ux0024_01.row.toRowW.prog w) (callerA.deeper (envOfC (Str.ofString "law") lawScope L1 fa cd)) (execs (lawBody.drop 0) (envOfC (Str.ofString "law") lawScope L1 fa cd)) Q' E' s := by
  revert hsc hlen
  revert lzz w mean mg mb lsc vsc sc
  refine @pk8 _ _ _ _ _ _ _ _  ⟨default, (aWorld 0), default, default, default, default, default, default⟩ _ ?_; generalize pick8 _ _ = zz; generalize zz.1 = lzz; generalize zz.2.1 = w; generalize zz.2.2.1 = mean; generalize zz.2.2.2.1 = mg; generalize zz.2.2.2.2.1 = mb; generalize zz.2.2.2.2.2.1 = lsc; generalize zz.2.2.2.2.2.2.1 = vsc; generalize zz.2.2.2.2.2.2.2 = sc; clear zz
  intro hsc hlen
  intro fa cd L1 h₀ s u c1 c2 c3 c4 c5 c6 c7 c8 c9 c10 Q' E' B F X C202 C221 N d1 d2 d3 d4 d5 d6 d7 d8 d9 d10 T hL h198 h217 hQ
  revert B F X C202 C221 N d1 d2 d3 d4 d5 d6 d7 d8 d9 d10 T hL h198 h217 hQ
  revert fa cd L1 h₀ s u c1 c2 c3 c4 c5 c6 c7 c8 c9 c10 Q' E'
  refine pk12 (o := ⟨default, default, default, default, ({} : Shared), default, default, default, default, default, default, default⟩) ?_; generalize pick12 _ _ = zz; generalize zz.1 = fa; generalize zz.2.1 = cd; generalize zz.2.2.1 = L1; generalize zz.2.2.2.1 = h₀; generalize zz.2.2.2.2.1 = s; generalize zz.2.2.2.2.2.1 = u; generalize zz.2.2.2.2.2.2.1 = c1; generalize zz.2.2.2.2.2.2.2.1 = c2; generalize zz.2.2.2.2.2.2.2.2.1 = c3; generalize zz.2.2.2.2.2.2.2.2.2.1 = c4; generalize zz.2.2.2.2.2.2.2.2.2.2.1 = c5; generalize zz.2.2.2.2.2.2.2.2.2.2.2 = c6; clear zz
  refine pk6 ?_; generalize pick6 _ _ = zz; generalize zz.1 = c7; generalize zz.2.1 = c8; generalize zz.2.2.1 = c9; generalize zz.2.2.2.1 = c10; generalize zz.2.2.2.2.1 = Q'; generalize zz.2.2.2.2.2 = E'; clear zz
  intro B F X C202 C221 N d1 d2 d3 d4 d5 d6 d7 d8 d9 d10 T hL h198 h217 hQ
  have q1 : 0 ≤ sc.sum.fmod 3 := Int.fmod_nonneg_of_pos _ (by decide)
  have q2 : sc.sum.fmod 3 < 3 := Int.fmod_lt_of_pos _ (by decide)
  have hh : sc.sum.fmod 3 = 0 ∨ sc.sum.fmod 3 = 1 ∨ sc.sum.fmod 3 = 2 := by (first | exact om575 q1 q2 | omega)
  obtain ⟨par, ids, ts, rd, rdp, us0, L⟩ := lines_of hh sc
  refine law_0 w mean mg mb lsc vsc sc hsc hlen fa cd L1 h₀ s u c1 c2 c3 c4 c5 c6 c7 c8 c9 c10 [(198, tabObj #[]), (217, tabObj #[])] Q' E' B F X N d8 d9 d10 T hL ?_ ?_
  · intro p hp
    simp only [List.mem_cons, List.not_mem_nil, or_false] at hp
    rcases hp with rfl | rfl
    · exact h198
    · exact h217
  intro s1 u1 lab lsg lpc vab vsg vpc nab nsg npc c8' c9' c10' th x1 F1 N1 iab isg ipc e9 e10 e8 ap1
  revert x1 F1 N1 iab isg ipc e9 e10 e8 ap1
  revert s1 u1 lab lsg lpc vab vsg vpc nab nsg npc c8' c9' c10' th
  refine pk12 (o := ⟨({} : Shared), default, default, default, default, default, default, default, default, default, default, default⟩) ?_; generalize pick12 _ _ = zz; generalize zz.1 = s1; generalize zz.2.1 = u1; generalize zz.2.2.1 = lab; generalize zz.2.2.2.1 = lsg; generalize zz.2.2.2.2.1 = lpc; generalize zz.2.2.2.2.2.1 = vab; generalize zz.2.2.2.2.2.2.1 = vsg; generalize zz.2.2.2.2.2.2.2.1 = vpc; generalize zz.2.2.2.2.2.2.2.2.1 = nab; generalize zz.2.2.2.2.2.2.2.2.2.1 = nsg; generalize zz.2.2.2.2.2.2.2.2.2.2.1 = npc; generalize zz.2.2.2.2.2.2.2.2.2.2.2 = c8'; clear zz
  refine pk3 ?_; generalize pick3 _ _ = zz; generalize zz.1 = c9'; generalize zz.2.1 = c10'; generalize zz.2.2 = th; clear zz
  intro x1 F1 N1 iab isg ipc e9 e10 e8 ap1
  obtain ⟨v8, e8⟩ := e8
  refine law_1 w mean mg mb (sc.sum.fmod 3) th hh lab lsg lpc vab vsg vpc nab nsg npc (treeAb sc 6) (treeSg sc 6) (piecesF (sc.sum.fmod 3) 7) iab isg ipc (treeAb_len sc) (treeSg_len sc) (by simp [piecesF]) (tree_signs sc) (pieces_len5 _) fa cd L1 h₀ s1 u1 (.ref lsc) c1 c2 c3 c4 c5 c6 c7 c8' c9' c10' _ Q' E' B F1 X N1 d7 e9 e10 T ap1 ?_
  intro s2 u2 lwd vwd nwd c7' tl tp x2 F2 N2 iwd e7 ap2
  revert x2 F2 N2 iwd e7 ap2
  revert s2 u2 lwd vwd nwd c7' tl tp
  refine pk8 (o := ⟨({} : Shared), default, default, default, default, default, default, default⟩) ?_; generalize pick8 _ _ = zz; generalize zz.1 = s2; generalize zz.2.1 = u2; generalize zz.2.2.1 = lwd; generalize zz.2.2.2.1 = vwd; generalize zz.2.2.2.2.1 = nwd; generalize zz.2.2.2.2.2.1 = c7'; generalize zz.2.2.2.2.2.2.1 = tl; generalize zz.2.2.2.2.2.2.2 = tp; clear zz
  intro x2 F2 N2 iwd e7 ap2
  have hcs2 := cells_of (L1 := L1) d1 d2 d3 d4 d5 d6 e7 e8 e9 e10
  have ng2 : NoGen ((lwd, listOf vwd.toArray nwd) :: (lab, listOf vab.toArray nab) :: [(198, tabObj #[]), (217, tabObj #[])]) := noGen_cons (noGen_cons (noGen_tab (noGen_tab (fun _ h => absurd h List.not_mem_nil))))
  refine law_2 w mean mg mb _ _ tl tp rd rdp L.l1 L.l2 L.r1 (Nat.le_trans L.p1 (by decide)) L.p2 L.r2 L.ea L.ew (by rw [L.rw, List.length_map, L.S.ilen]) L.ok fa cd L1 h₀ s2 u2 (.ref lsc) c1 c2 c3 c4 c5 c6 c7' c8' c9' c10' _ Q' E' B F2 X N2 (noGen_of hcs2 ng2) d5 d6 T ap2 ?_
  intro s3 u3 la lw va vw na nw c5' c6' x3 F3 N3 iva ivw e5 e6 ap3
  revert L x3 F3 N3 iva ivw e5 e6 ap3
  revert par ids ts rd rdp us0 s3 u3 la lw va vw na nw c5' c6'
  refine pk12 (o := ⟨default, default, default, default, default, default, ({} : Shared), default, default, default, default, default⟩) ?_; generalize pick12 _ _ = zz; generalize zz.1 = par; generalize zz.2.1 = ids; generalize zz.2.2.1 = ts; generalize zz.2.2.2.1 = rd; generalize zz.2.2.2.2.1 = rdp; generalize zz.2.2.2.2.2.1 = us0; generalize zz.2.2.2.2.2.2.1 = s3; generalize zz.2.2.2.2.2.2.2.1 = u3; generalize zz.2.2.2.2.2.2.2.2.1 = la; generalize zz.2.2.2.2.2.2.2.2.2.1 = lw; generalize zz.2.2.2.2.2.2.2.2.2.2.1 = va; generalize zz.2.2.2.2.2.2.2.2.2.2.2 = vw; clear zz
  refine pk4 ?_; generalize pick4 _ _ = zz; generalize zz.1 = na; generalize zz.2.1 = nw; generalize zz.2.2.1 = c5'; generalize zz.2.2.2 = c6'; clear zz
  intro L x3 F3 N3 iva ivw e5 e6 ap3
  have hcs3 := cells_of (L1 := L1) d1 d2 d3 d4 e5 e6 e7 e8 e9 e10
  refine law_3 w mean mg mb _ tp L.p1 L.st us0 L.un fa cd L1 h₀ s3 u3 (.ref lsc) c1 c2 c3 c4 c5' c6' c7' c8' c9' c10' _ Q' E' B F3 X N3 (noGen_of hcs3 (noGen_cons (noGen_cons ng2))) T ap3 ?_
  intro s4 u4 x4 F4 N4
  revert x4 F4 N4
  revert s4 u4
  refine pk2 (o := ⟨({} : Shared), default⟩) ?_; generalize pick2 _ _ = zz; generalize zz.1 = s4; generalize zz.2 = u4; clear zz
  intro x4 F4 N4
  rw [L.ra] at iva
  rw [L.rw] at ivw
  have D := wdr_of hh sc
  have S := L.S
  have Rw0 := rw_of S D
  have X0 := tb_of S D
  have hT := tr_of S D
  have plab : (lab, listOf vab.toArray nab) ∈ cells10 L1 c1 c2 c3 c4 c5' c6' c7' c8' c9' c10' ((lw, listOf vw.toArray nw) :: (la, listOf va.toArray na) :: (lwd, listOf vwd.toArray nwd) :: (lab, listOf vab.toArray nab) :: [(198, tabObj #[]), (217, tabObj #[])]) := mem_nth 13 rfl
  have p198 : ((198, tabObj #[]) : Addr × Obj) ∈ cells10 L1 c1 c2 c3 c4 c5' c6' c7' c8' c9' c10' ((lw, listOf vw.toArray nw) :: (la, listOf va.toArray na) :: (lwd, listOf vwd.toArray nwd) :: (lab, listOf vab.toArray nab) :: [(198, tabObj #[]), (217, tabObj #[])]) := mem_nth 14 rfl
  have hlw : ∀ i : Nat, ((ids.map (wdrF (sc.sum.fmod 3) sc)).getD i (Str.ofString "")).length ≤ 6 := fun i => by
    rcases Nat.lt_or_ge i 7 with h | h
    · rw [pWd_get S D h]; exact wdr_len' hh sc _
    · rw [List.getD_eq_getElem?_getD, List.getElem?_eq_none (by rw [List.length_map, S.ilen]; exact h)]; decide
  refine law_4 w mean mg mb la lw va vw na nw (pAb par) (ids.map (wdrF (sc.sum.fmod 3) sc)) iva ivw (by rw [pAb, List.length_map, S.alen]) (by rw [List.length_map, S.ilen]) hlw ?ha (pF par ids (wdrF (sc.sum.fmod 3) sc)) rfl (row_cut (L := pL par ids (wdrF (sc.sum.fmod 3) sc)) pF_cpl (fun k k1 k7 => hT.pos_lt k1 k7)) fa cd L1 h₀ s4 u4 _ (.ref lsc) c1 c2 c3 c4 c5' c6' c7' c8' c9' c10' [(lwd, listOf vwd.toArray nwd), (lab, listOf vab.toArray nab), (217, tabObj #[])] Q' E' B F4 X C202 (newsSub N4 _ ?hs4) d4 e5 e6 T (ap3.sub ?ha4) ?h198 (Nat.lt_succ_of_lt h198) ?_
  case ha =>
    intro i hi
    rw [pAb_get S D hi]
    rcases Nat.eq_zero_or_pos i with rfl | h0
    · rw [S.par0]; decide
    · have := S.par' i h0 hi
      (first | exact om576 this | omega)
  case hs4 =>
    intro p hp
    (revert p; walk_at "mine:sub")
  case ha4 =>
    intro p hp
    (revert p; walk_at "mine:sub")
  case h198 =>
    intro p hp
    simp only [List.mem_cons, List.not_mem_nil, or_false] at hp
    rcases hp with rfl | rfl | rfl | rfl | rfl
    · exact ne_of_objs N4 (oa := listOf vw.toArray nw) (mem_nth 10 rfl) p198 (by intro h; cases h)
    · exact ne_of_objs N4 (oa := listOf va.toArray na) (mem_nth 11 rfl) p198 (by intro h; cases h)
    · exact ne_of_objs N4 (oa := listOf vwd.toArray nwd) (mem_nth 12 rfl) p198 (by intro h; cases h)
    · exact ne_of_objs N4 (oa := listOf vab.toArray nab) (mem_nth 13 rfl) p198 (by intro h; cases h)
    · show @Ne Nat 217 198; decide
  intro ps4 s5 u5 lt lr ly vt vr vy nt nr ny c4' ex x5 F5 N5 e4 ir iy hvt htb ap5
  revert x4 F4 N4 x5 F5 N5 e4 ir iy hvt htb ap5
  revert s4 u4 ps4 s5 u5 lt lr ly vt vr vy nt nr ny c4' ex
  refine pk12 (o := ⟨({} : Shared), default, default, ({} : Shared), default, default, default, default, default, default, default, default⟩) ?_; generalize pick12 _ _ = zz; generalize zz.1 = s4; generalize zz.2.1 = u4; generalize zz.2.2.1 = ps4; generalize zz.2.2.2.1 = s5; generalize zz.2.2.2.2.1 = u5; generalize zz.2.2.2.2.2.1 = lt; generalize zz.2.2.2.2.2.2.1 = lr; generalize zz.2.2.2.2.2.2.2.1 = ly; generalize zz.2.2.2.2.2.2.2.2.1 = vt; generalize zz.2.2.2.2.2.2.2.2.2.1 = vr; generalize zz.2.2.2.2.2.2.2.2.2.2.1 = vy; generalize zz.2.2.2.2.2.2.2.2.2.2.2 = nt; clear zz
  refine pk4 ?_; generalize pick4 _ _ = zz; generalize zz.1 = nr; generalize zz.2.1 = ny; generalize zz.2.2.1 = c4'; generalize zz.2.2.2 = ex; clear zz
  intro x4 F4 N4 x5 F5 N5 e4 ir iy hvt htb ap5
  refine law_5 w mean mg mb (sc.sum.fmod 3) th hh fa cd L1 h₀ s5 u5 _ _ _ (.ref lsc) c1 c2 c3 c4' c5' c6' c7' c8' c9' c10' _ Q' E' B F5 X N5 d3 e9 T ap5 ?_
  intro s6 u6 lk vk nk c3' x6 F6 N6 e3 ik ap6
  revert x6 F6 N6 e3 ik ap6
  revert s6 u6 lk vk nk c3'
  refine pk6 (o := ⟨({} : Shared), default, default, default, default, default⟩) ?_; generalize pick6 _ _ = zz; generalize zz.1 = s6; generalize zz.2.1 = u6; generalize zz.2.2.1 = lk; generalize zz.2.2.2.1 = vk; generalize zz.2.2.2.2.1 = nk; generalize zz.2.2.2.2.2 = c3'; clear zz
  intro x6 F6 N6 e3 ik ap6
  have hcs6 := cells_of (L1 := L1) d1 d2 e3 e4 e5 e6 e7 e8 e9 e10
  have hq : ∀ k, 1 ≤ k → k < 7 → (par.tail.map (· - 1)).getD (k - 1) 9 = pP par k := fun k k1 k7 => pq_get S k1 k7
  have hui := kind_is hh (sign_is (sc.sum.fdiv 12))
  refine law_6 w mean mg mb (sc.sum.fmod 3) th lsc vsc sc hsc lk lt vk vt nk nt (kindsF (sc.sum.fmod 3)) ((rowL (pF par ids (wdrF (sc.sum.fmod 3) sc)) 7).map (tabRow (pAb par) (ids.map (wdrF (sc.sum.fmod 3) sc)))) _ _ ik X0.blocks X0.t7 (kinds_len hh) hvt _ tp (grownG (par.tail.map (· - 1)) (pW ids (wdrF (sc.sum.fmod 3) sc)) (pRow par ids (wdrF (sc.sum.fmod 3) sc))) (fun k => 6 - pRow par ids (wdrF (sc.sum.fmod 3) sc) k) (fun k hk => grown_len S D hk L.tl) ?hleaf ?hin (by show 6 - _ < 8; (first | exact om577 | omega)) ?hG0
    (kindAt (sc.sum.fmod 3) (due (sc.sum.fmod 3) (signAt ((sc.sum.fdiv 12).fmod 4)))) hui.2 (fun i hi e => absurd (X0.kinj e hui.2) (Nat.ne_of_lt hi)) fa cd L1 h₀ s6 u6 _ _ c1 c2 c3' c4' c5' c6' c7' c8' c9' c10' _ Q' E' B F6 X N6 d2 e3 e4 e9 hcs6 hL ?hrow T ap6 ?_
  case hleaf =>
    intro k nm la hk
    obtain ⟨hk7, e⟩ := X0.row hk
    have e1 : nm = pW ids (wdrF (sc.sum.fmod 3) sc) (pRow par ids (wdrF (sc.sum.fmod 3) sc) k) := congrArg Prod.fst e
    have e2 : false = innerB par (pRow par ids (wdrF (sc.sum.fmod 3) sc) k) := congrArg (fun x => x.2.2) e
    rw [e1]
    exact X0.leaf hq hk7 e2.symm
  case hin =>
    intro k nm la hk
    obtain ⟨hk7, e⟩ := X0.row hk
    have e1 : nm = pW ids (wdrF (sc.sum.fmod 3) sc) (pRow par ids (wdrF (sc.sum.fmod 3) sc) k) := congrArg Prod.fst e
    have e2 : true = innerB par (pRow par ids (wdrF (sc.sum.fmod 3) sc) k) := congrArg (fun x => x.2.2) e
    rw [e1]
    exact X0.inner hq hk7 e2.symm
  case hG0 =>
    refine cpl_ext ?_
    rw [cpl_grownG, row_zero S D, txt_root S]
    exact L.cp.symm
  case hrow =>
    intro j r hr
    obtain ⟨a, t, a1, a2⟩ := htb j r hr
    exact ⟨a, t, a1, .tail _ (.tail _ (List.mem_append_left _ a2))⟩
  intro s7 u7 lb lp vb vp nb np c2' tu more x7 F7 N7 e2 hvp hvb hRp hRb ap7
  revert x7 F7 N7 e2 hvp hvb hRp hRb ap7
  revert s7 u7 lb lp vb vp nb np c2' tu more
  refine pk11 (o := ⟨({} : Shared), default, default, default, default, default, default, default, default, default, default⟩) ?_; generalize pick11 _ _ = zz; generalize zz.1 = s7; generalize zz.2.1 = u7; generalize zz.2.2.1 = lb; generalize zz.2.2.2.1 = lp; generalize zz.2.2.2.2.1 = vb; generalize zz.2.2.2.2.2.1 = vp; generalize zz.2.2.2.2.2.2.1 = nb; generalize zz.2.2.2.2.2.2.2.1 = np; generalize zz.2.2.2.2.2.2.2.2.1 = c2'; generalize zz.2.2.2.2.2.2.2.2.2.1 = tu; generalize zz.2.2.2.2.2.2.2.2.2.2 = more; clear zz
  intro x7 F7 N7 e2 hvp hvb hRp hRb ap7
  have p217 : ((217, tabObj #[]) : Addr × Obj) ∈ cells10 L1 c1 c2' c3' c4' c5' c6' c7' c8' c9' c10' ((lb, listOf vb.toArray nb) :: (lp, listOf vp.toArray np) :: (lk, listOf vk.toArray nk) :: (lt, listOf vt.toArray nt) :: (more ++ ((lr, listOf vr.toArray nr) :: (ly, listOf vy.toArray ny) :: (ex ++ ((198, tabObj ps4) :: [(lwd, listOf vwd.toArray nwd), (lab, listOf vab.toArray nab), (217, tabObj #[])]))))) := sub_behind 14 rfl _ (List.mem_append_right _ (sub_behind 2 rfl _ (List.mem_append_right _ (mem_nth 3 rfl))))
  have mmore : ∀ p ∈ more, p ∈ cells10 L1 c1 c2' c3' c4' c5' c6' c7' c8' c9' c10' ((lb, listOf vb.toArray nb) :: (lp, listOf vp.toArray np) :: (lk, listOf vk.toArray nk) :: (lt, listOf vt.toArray nt) :: (more ++ ((lr, listOf vr.toArray nr) :: (ly, listOf vy.toArray ny) :: (ex ++ ((198, tabObj ps4) :: [(lwd, listOf vwd.toArray nwd), (lab, listOf vab.toArray nab), (217, tabObj #[])]))))) := fun p hp => sub_front 14 rfl p hp
  have mex : ∀ p ∈ ex, p ∈ cells10 L1 c1 c2' c3' c4' c5' c6' c7' c8' c9' c10' ((lb, listOf vb.toArray nb) :: (lp, listOf vp.toArray np) :: (lk, listOf vk.toArray nk) :: (lt, listOf vt.toArray nt) :: (more ++ ((lr, listOf vr.toArray nr) :: (ly, listOf vy.toArray ny) :: (ex ++ ((198, tabObj ps4) :: [(lwd, listOf vwd.toArray nwd), (lab, listOf vab.toArray nab), (217, tabObj #[])]))))) := fun p hp => sub_behind 14 rfl _ (List.mem_append_right _ (sub_front 2 rfl p hp))
  have inF : ∀ (a : Addr) (o : Obj), (a, o) ∈ more ++ ex → o.cls ≠ .none → (a, o) ∈ (more ++ ex).filter fun p => decide (@Ne Nat p.1 217) := fun a o h hne => by
    refine List.mem_filter.mpr ⟨h, ?_⟩
    rw [decide_eq_true_eq]
    refine ne_of_objs N7 (oa := o) (ob := tabObj #[]) ?_ p217 hne
    rcases List.mem_append.mp h with h | h
    · exact mmore _ h
    · exact mex _ h
  have hs7 : ∀ p ∈ ((217, tabObj #[]) : Addr × Obj) :: (lb, listOf vb.toArray nb) :: (lp, listOf vp.toArray np) :: (lk, listOf vk.toArray nk) :: (lt, listOf vt.toArray nt) :: (lr, listOf vr.toArray nr) :: (ly, listOf vy.toArray ny) :: (lwd, listOf vwd.toArray nwd) :: (lab, listOf vab.toArray nab) :: ((198, tabObj ps4) :: ((more ++ ex).filter fun p => decide (@Ne Nat p.1 217))),
      p ∈ (lb, listOf vb.toArray nb) :: (lp, listOf vp.toArray np) :: (lk, listOf vk.toArray nk) :: (lt, listOf vt.toArray nt) :: (more ++ ((lr, listOf vr.toArray nr) :: (ly, listOf vy.toArray ny) :: (ex ++ ((198, tabObj ps4) :: [(lwd, listOf vwd.toArray nwd), (lab, listOf vab.toArray nab), (217, tabObj #[])])))) := by
    intro p hp
    simp only [List.mem_cons] at hp
    rcases hp with rfl | rfl | rfl | rfl | rfl | rfl | rfl | rfl | rfl | rfl | hp
    · exact sub_behind 4 rfl _ (List.mem_append_right _ (sub_behind 2 rfl _ (List.mem_append_right _ (mem_nth 3 rfl))))
    · exact mem_nth 0 rfl
    · exact mem_nth 1 rfl
    · exact mem_nth 2 rfl
    · exact mem_nth 3 rfl
    · exact mem_past 4 0 rfl rfl
    · exact mem_past 4 1 rfl rfl
    · exact sub_behind 4 rfl _ (List.mem_append_right _ (sub_behind 2 rfl _ (List.mem_append_right _ (mem_nth 1 rfl))))
    · exact sub_behind 4 rfl _ (List.mem_append_right _ (sub_behind 2 rfl _ (List.mem_append_right _ (mem_nth 2 rfl))))
    · exact sub_behind 4 rfl _ (List.mem_append_right _ (sub_behind 2 rfl _ (List.mem_append_right _ (mem_nth 0 rfl))))
    · rcases List.mem_append.mp (List.mem_filter.mp hp).1 with h | h
      · exact sub_front 4 rfl _ h
      · exact sub_behind 4 rfl _ (List.mem_append_right _ (sub_front 2 rfl _ h))
  have hrow7 : ∀ j, j < 7 → (rowL (pF par ids (wdrF (sc.sum.fmod 3) sc)) 7).getD j 0 = (pRow par ids (wdrF (sc.sum.fmod 3) sc) j : Int) := fun j hj => by
    rw [List.getD_eq_getElem?_getD, (row_at S D hj).1]; rfl
  have hrl := rowL_length (pF par ids (wdrF (sc.sum.fmod 3) sc)) 7
  refine law_7 w mean mg mb lk lt lr ly lab lwd lb lp vk vt vr vy vab vwd vb vp nk nt nr ny nab nwd nb np (kindsF (sc.sum.fmod 3)) (wayL (pAb par) (ids.map (wdrF (sc.sum.fmod 3) sc)) 7) (wdl (sc.sum.fmod 3) sc) (rowL (pF par ids (wdrF (sc.sum.fmod 3) sc)) 7) (treeAb sc 6)
    ((rowL (pF par ids (wdrF (sc.sum.fmod 3) sc)) 7).map (tabRow (pAb par) (ids.map (wdrF (sc.sum.fmod 3) sc)))) _ _ ik ir iy iab iwd (kinds_len hh) hrl (wayL_length _ _ 7) (treeAb_len sc) (wdl_len _ sc) X0.t7 hvt hvp hvb (rowL_range _ 7 (Nat.le_refl 7)) ?hwl ?rab ?hkl
    (kindAt (sc.sum.fmod 3) (due (sc.sum.fmod 3) (signAt ((sc.sum.fdiv 12).fmod 4)))) tu hui.1 ?hbu _ _ _ _ (fun i hi => X0.loop S.lasts hi hui.1 hrl hrow7 (fun u _ => rfl) (such_count S D (shape_ab sc) (shapeQ_len sc) (fun n hn => rfl) hi hui.1))
    fa cd L1 h₀ s7 u7 c1 c2' c3' c4' c5' c6' c7' c8' c9' c10' ((198, tabObj ps4) :: ((more ++ ex).filter fun p => decide (@Ne Nat p.1 217))) Q' E' B F7 X C221 (newsSub N7 _ ?hs) d1 e2 e3 e4 e7 e10 ?hrw ?hrp ?hrb T (ap7.sub hs7) ?h217 (Nat.lt_succ_of_lt h217) ?_
  case hwl =>
    intro i
    rw [List.getD_eq_getElem?_getD]
    cases e : (wayL (pAb par) (ids.map (wdrF (sc.sum.fmod 3) sc)) 7)[i]? with
    | none => rw [Option.getD_none]; decide
    | some y => exact Nat.le_trans (wayL_bound hlw 7 y (List.mem_of_getElem? e)) (by decide)
  case rab =>
    intro i h1 h7
    obtain ⟨j, rfl⟩ : ∃ j, i = j + 1 := ⟨i - 1, by (first | exact om544 h1 h7 | omega)⟩
    rw [shape_ab, List.getD_cons_succ, getD_map (by rw [shapeQ_len]; (first | exact om578 h1 h7 | omega)) 0 0]
    have hj : (shapeQ sc).getD j 0 = ((cellF sc (1 + (j : Int))).fmod (1 + (j : Int))).toNat := by
      unfold shapeQ
      rw [getD_map (by simp; (first | exact om578 h1 h7 | omega)) 0 0, List.getD_eq_getElem?_getD, List.getElem?_range (by (first | exact om578 h1 h7 | omega))]; rfl
    have := (shape_lt sc j).2
    (first | exact om579 h1 h7 hj this | omega)
  case hkl =>
    intro i
    rcases hh with h | h | h <;> rw [h] <;> exact kinds_short _ i
  case hbu =>
    have a := bsN_len (pP par) (pK (sc.sum.fmod 3) ids (wdrF (sc.sum.fmod 3) sc)) (pRow par ids (wdrF (sc.sum.fmod 3) sc)) (pL par ids (wdrF (sc.sum.fmod 3) sc)) (innerB par) (kindAt (sc.sum.fmod 3) (due (sc.sum.fmod 3) (signAt ((sc.sum.fdiv 12).fmod 4))))
    have b := psN_len (pK (sc.sum.fmod 3) ids (wdrF (sc.sum.fmod 3) sc)) (pRow par ids (wdrF (sc.sum.fmod 3) sc)) (innerB par) (kindAt (sc.sum.fmod 3) (due (sc.sum.fmod 3) (signAt ((sc.sum.fdiv 12).fmod 4))))
    simp only [castL, List.length_map]
    (first | exact om580 a b | omega)
  case hs => exact cons_mono (cons_mono (cons_mono (cons_mono (cons_mono (cons_mono (cons_mono (cons_mono (cons_mono (cons_mono hs7)))))))))
  case hrw =>
    intro j r hr
    obtain ⟨a, t, a1, a2⟩ := htb j r hr
    exact ⟨a, t, a1, .tail _ (inF _ _ (List.mem_append_right _ a2) (by intro h; cases h))⟩
  case hrp => exact hRp.mono fun a va na h => .tail _ (inF _ _ (List.mem_append_left _ h) (by intro h; cases h))
  case hrb => exact hRb.mono fun a va na h => .tail _ (inF _ _ (List.mem_append_left _ h) (by intro h; cases h))
  case h217 =>
    intro p hp
    have key : ∀ (a : Addr) (vs : Array Value) (n : Nat), (a, listOf vs n) ∈ (lb, listOf vb.toArray nb) :: (lp, listOf vp.toArray np) :: (lk, listOf vk.toArray nk) :: (lt, listOf vt.toArray nt) :: (lr, listOf vr.toArray nr) :: (ly, listOf vy.toArray ny) :: (lwd, listOf vwd.toArray nwd) :: (lab, listOf vab.toArray nab) :: [] → a ≠ 217 := fun a vs n h => by
      refine ne_of_objs N7 (oa := listOf vs n) (ob := tabObj #[]) ?_ p217 (by intro h; cases h)
      exact sub_behind 10 rfl _ (hs7 _ ((by walk_at "mine:sub" : ∀ p ∈ _, p ∈ _) _ h))
    simp only [List.mem_cons] at hp
    rcases hp with rfl | rfl | rfl | rfl | rfl | rfl | rfl | rfl | rfl | hp
    · exact key lb vb.toArray nb (mem_nth 0 rfl)
    · exact key lp vp.toArray np (mem_nth 1 rfl)
    · exact key lk vk.toArray nk (mem_nth 2 rfl)
    · exact key lt vt.toArray nt (mem_nth 3 rfl)
    · exact key lr vr.toArray nr (mem_nth 4 rfl)
    · exact key ly vy.toArray ny (mem_nth 5 rfl)
    · exact key lwd vwd.toArray nwd (mem_nth 6 rfl)
    · exact key lab vab.toArray nab (mem_nth 7 rfl)
    · show @Ne Nat 198 217; decide
    · have := (List.mem_filter.mp hp).2
      rw [decide_eq_true_eq] at this
      exact this
  intro s8 m8 ps8 x8 F8 N8
  exact hQ s8 m8 ((x1.trans x2).trans (x3.trans (x4.trans (x5.trans (x6.trans (x7.trans x8)))))) F8 (GrownAt.of N8 (.tail _ (.head _))) (GrownAt.of N8 (.head _))
end Mine
end

section
open PySem PySem.W PyProof.Rows PySem.Calls PySem.Spec
namespace Mine
theorem cells_cons {cm : PySem.Str → Option Value} {n : PySem.Str} {c : Addr} {r : List (PySem.Str × Addr)} {cells : List (Addr × Obj)} (x : CellsAre cm ((n, c) :: r) cells) : ∃ o cs, cells = (c, o) :: cs ∧ o.data = .cell (cm n) ∧ CellsAre cm r cs := by
  cases x with | cons h r => exact ⟨_, _, rfl, h, r⟩
theorem cells_nil {cm : PySem.Str → Option Value} {cells : List (Addr × Obj)} (x : CellsAre cm [] cells) : cells = [] := by cases x; rfl
local macro_rules | `(tactic| walk_at "call ref") => `(tactic| (refine Halt.mk ?_))
theorem fin_holds : PySem.Challenge.rw_ux0024_01.Holds := Mine.hd (by
  k_fill
  intro w s₀ s₁ mg mb G Y fa o pm cd doc dV kV ho hd hcd hD hmg hg args vals as hpre hlay hrd hwl hlo
  have KX := km_in_of Y
  km_tabs Y
  have X := (Ground.X G).1
  have V := (Ground.X G).2
  refine Ground.open G ?_
  intro T B D TE TW
  (try (refine guard_noD D (by decide +kernel) ?_; clear D))
  km_lay T hmg ho hd cd
  clear hmg
  wrow_args hpre hlay hrd hwl hlo
  all_goals (
    first | refine callC_kw (enter_call ?_) | refine enter_call ?_
    w_top on
    refine end_bare hT9 (fun _ _ => rfl) ?_
    skip)
  have he := Dflts.none hD rfl
  subst he
  have he := Dflts.noKw hD
  subst he
  refine call_cellsN (by decide) ho (fd_plain hd) (Top.nolimit T) hcd rfl (kinds_of (by kinds_ok)) (by decide +kernel) fun h₁ tk₁ cells F N0 X0 => ?_
  generalize hLL : s₁.heap.objs.size = L1 at F N0 X0 ⊢
  obtain ⟨c1, _, rfl, d1, X0⟩ := cells_cons X0
  obtain ⟨c2, _, rfl, d2, X0⟩ := cells_cons X0
  obtain ⟨c3, _, rfl, d3, X0⟩ := cells_cons X0
  obtain ⟨c4, _, rfl, d4, X0⟩ := cells_cons X0
  obtain ⟨c5, _, rfl, d5, X0⟩ := cells_cons X0
  obtain ⟨c6, _, rfl, d6, X0⟩ := cells_cons X0
  obtain ⟨c7, _, rfl, d7, X0⟩ := cells_cons X0
  obtain ⟨c8, _, rfl, d8, X0⟩ := cells_cons X0
  obtain ⟨c9, _, rfl, d9, X0⟩ := cells_cons X0
  obtain ⟨c10, _, rfl, d10, X0⟩ := cells_cons X0
  have X0 := cells_nil X0
  subst X0
  clear hd
  kn_ghosts F T
  k_drop
  (rename Fr _ _ _ _ => FF)
  (rename IntsAre _ _ => iI)
  refine law_all w _ mg _ _ _ _ iI (by (first | exact om581 (by assumption) | omega)) fa cd L1 _ _ _ c1 c2 c3 c4 c5 c6 c7 c8 c9 c10 _ _ (by assumption) (fr_ps FF _ (List.forall_mem_cons.mpr ⟨rfl, List.forall_mem_nil _⟩)) (by assumption) (by assumption) (by assumption) (newsSub (by assumption) _ ?hs) (d1.trans rfl) (d2.trans rfl) (d3.trans rfl) (d4.trans rfl) (d5.trans rfl) (d6.trans rfl) (d7.trans rfl) (d8.trans rfl) (d9.trans rfl) (d10.trans rfl) (by assumption) (by assumption) ?h198 ?h217 ?hq
  case hs =>
    intro p hp
    (revert p; walk_at "mine:sub")
  case h198 =>
    (rename @LT.lt Nat _ 217 L1 ∧ _ => l0)
    exact l0.2
  case h217 =>
    (rename @LT.lt Nat _ 217 L1 ∧ _ => l0)
    exact l0.1
  case hq =>
    intro s' m' x' F' g1 g2
    have ge : AllBare s'.gens := x'.2.2 (.of_eq (by assumption))
    refine ⟨⟨_, rfl, ?_⟩, F'.keep, x'.1, ge, ⟨g2, g1, trivial⟩⟩
    first | wrow_post | (simp only [ofPy]; rfl) | decide)
end Mine
end

theorem PySem.Challenge.cw_ux0024_01_holds : PySem.Challenge.rw_ux0024_01.Holds := by
  exact Mine.fin_holds
