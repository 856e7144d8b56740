import Derived.Test.YbulkkruRowQ
import Derived.Test.YbulkkruSortQ
import Derived.Shelf.SlSortCmp.WholeK
import Derived.Shelf.SlSortCmp.NoneTotal
import Derived.Shelf.Lay
import Derived.Ground.SlsfProg
namespace Go.Proofs
open Go.Shelf Go.RowKit Go.Lib Go.Sort
shelf_lay_g SlLaysF0.n6 Slsf 6 at Yba 12 as Yba.sortQ
end Go.Proofs
namespace Go.Proofs.Ybulkkru.cst
open Go.RowKit Go.Proofs Go.Proofs.Ybulkkru.net
open Go.Sort (grow HoldsK swp PermIn SortedIn SWO)
open Go.Shelf Go.Lib
set_option linter.unusedVariables false


theorem cmpLays13 (blk off size : Nat) (w : World) : CmpLays Yba.prog 13 #[] encQ 13 cmpQ blk off size w :=
  fun _ _ _ _ x y => acmp_any x y _

theorem sort_any (blk off cap : Nat) (d : Array Q) (w : World) (hH : HoldsK encQ 13 w blk off d) (hblk : blk < w.heap.size) (hsz : d.size ≤ 4096) :
    Calls Yba.prog 12 #[.slice (some ⟨blk, off, none⟩) d.size cap, .func (.func 13) #[] #[]] w fun e w' => e = .returned (.tuple #[]) ∧ ∃ d', PermIn 0 d.size d d' ∧ SortedIn (fun x y : Q => decide (cmpQ x y < 0)) 0 d.size d' ∧ SWK encQ 13 w blk off d' w' := by
  have eg : ∀ args w, (callFunc 13 args).run Yba.prog w = .ok (.enter 13 args) w := enters_of Yba.func13 (by kernel_rfl) rfl
  have hcon := AnyQ.slices_SortFunc Yba.sortQ 13 Yba.isAgg77 Yba.sizeOf77 encQ encQ_len encQ_one cmpQ swoQ 13 #[] blk off cap d w eg (cmpLays13 blk off d.size w) hH hblk (by omega)
  exact hcon.mono fun e w' ⟨h1, d', n, os, h2, h3, h4⟩ => ⟨h1, d', h2, h3, n, os, h4⟩

theorem sort_none (p : Option Addr) (cap : Nat) (w : World) : Calls Yba.prog 12 #[.slice p 0 cap, .func (.func 13) #[] #[]] w fun e w' => e = .returned (.tuple #[]) ∧ w' = w :=
  AnyF.slices_SortFunc_none Yba.sortQ p cap _ w
end Go.Proofs.Ybulkkru.cst
