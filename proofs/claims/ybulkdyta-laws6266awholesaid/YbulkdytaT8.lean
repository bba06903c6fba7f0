import Derived.Test.YbulkdytaT7
import Derived.Test.YbulkdytaS1
import Derived.Test.YbulkdytaS3
import Derived.Test.YbulkdytaS11
import Derived.Test.YbulkdytaB7
import Derived.Deep.Cut
import Derived.Deep.CutRange
import Derived.Deep.DeepCutAuto
import Derived.Deep.CutBlock
namespace Go.Proofs.Ybulkdyta
open Go.RowKit
set_option maxHeartbeats 4000000 in
set_option maxRecDepth 100000 in
theorem t17n {u0 u1 u2 u3 u8 u15 u16 u18 u19 u22 u23 u24 u25 u26 u27 u28 u29 u30 u31 u32 u33 u34 u35 u36 u37 u38 u39 u40 u41 u42 u43 u44 u45 u46 u47 u48 u49 u50 u51 u52 u53 u54 u55 u56 u57 u58 u59 u60 u61 u62 u63 u64 u65 u66 u67 u68 u69 u70 u71 u72 u73 u74 u75 u76 u77 u78 u79 u80 u81 u82 u83 u84 u85 u86 u87 u88 u89 u90 u91 u92 u93 u94 u95 u96 u97 u98 u99 u100 u101 u102 u103 u104 u105 u106 u107 u108 u109 u110 u111 u112 u113 u114 u115 u116 u117 u118 u119 u120 u121 u122 u123 u124 u125 u126 u127 u128 u129 u130 u131 u132 u133 u134 u135 u136 u137 u138 u139 u140 u141 u142 u143 u144 u145 u146 u147 u148 u149 u150 u151 u152 u153 u154 u155 u156 u157 u158 u159 u160 u161 u162 u163 u164 u165 u166 u167 u168 u169 u170 u171 u172 u173 u174 u175 u176 u177 u178 u179 u180 u181 u182 u183 u184 u185 u186 u187 u188 u189 u190 u191 u192 u193 u194 u195 u196 u197 u198 u199 u200 u201 u202 u203 u204 u205 u206 u207 u208 u209 u210 u211 u212 u213 u214 u215 u216 u217 u218 u219 u220 u221 u222 u223 u224 u225 u226 u227 u228 u229 u230 u231 u232 u233 u234 u235 u236 u237 u238 u239 u240 u241 u242 u243 u244 u245 u246 u247 u248 u249 u250 u251 u252 u253 u254 u255 u256 u257 u258 u259 u260 u261 u262 u263 u264 u265 u266 u267 u268 u269 u270 u271 u272 u273 u274 u275 u276 u277 u278 u279 u280 u281 u282 u283 u284 u285 u286 u287 u288 u289 u290 u291 u292 u293 u294 u295 u296 u297 u298 u299 u300 u301 u302 u303 u304 u305 u306 u307 u308 u309 u310 u311 u312 u313 u314 u315 u316 u317 u318 u319 u320 u321 u322 u323 u324 u325 u326 u327 u328 u329 u330 u331 u332 u333 u334 u335 u336 u337 u338 u339 u340 u341 u342 u343 u344 u345 u346 u347 u348 u349 u350 u351 u352 u353 u354 u355 u356 u357 u358 u359 u360 u361 u362 u363 u364 u365 u366 u367 u368 u369 u370 u371 u372 u373 u374 u375 u376 u377 u378 u379 u380 u381 u382 u383 u384 u385 u386 u387 u388 u389 u390 u391 u392 u393 u394 u395 u396 u397 u398 u399 u400 u401 u402 u403 u404 u405 u406 u407 u408 u409 u410 u411 u412 u413 u414 u415 u416 u417 u418 u419 u420 u421 u422 u423 u424 u425 u426 u427 u428 u429 u430 u431 u432 u433 u434 u435 u436 u437 u438 u439 u440 u441 u442 u443 u444 u445 u446 u447 u448 u449 u450 u451 u452 u453 u454 u455 u456 u457 u458 u459 u460 u461 u462 u463 u464 u465 u466 u467 u468 u469 u470 u471 u472 u473 u474 u475 u476 u477 u478 u479 u480 u481 u482 u483 u484 u485 u486 u487 u488 u489 u490 u491 u492 u493 u494 u495 u496 u497 u498 u499 u500 u501 u502 u503 u504 u505 u506 u507 u508 u509 u510 u511 u512 u513 u514 u515 u516 u517 u518 u519 u520 u521 u522 u523 u524 u525 u526 u527 u528 u529 u530 u531 u532 u533 u534 u535 u536 u537 u538 u539 u540 u541 u542 u543 u544 u545 u546 u547 u548 u549 u550 u551 u552 u553 u554 u555 u556 u557 u558 u559 u560 u561 u562 u563 u564 u565 u566 u567 u568 u569 u570 u571 u572 u573 u574 u575 u576 u577 u578 u579 u580 u581 u582 u583 u584 u585 u586 u587 u588 u589 u590 u591 u592 u593 u594 u595 u596 u597 u598 u599 u600 u601 u602 u603 u604 u605 u606 u607 u608 u609 u610 u611 u612 u613 u614 u615 u616 u617 u618 u619 u620 u621 u622 u623 u624 u625 u626 u627 u628 u629 u630 u631 u632 u633 u634 u635 u636 u637 u638 u639 u640 u641 u642 u643 u644 u645 u646 u647 u648 u649 u650 u651 u652 u653 u654 u655 u656 u657 u658 u659 u660 u661 u662 u663 u664 u665 u666 u667 u668 u669 u670 u671 u672 u673 u674 u675 u676 u677 u678 u679 u680 u681 u682 u683 u684 u685 u686 u687 u688 u689 u690 u691 u692 u693 u694 u695 u696 u697 u698 u699 u700 u701 u702 u703 u704 u705 u706 u707 u708 u709 u710 u711 u712 u713 u714 u715 u716 u717 u718 u719 u720 u721 u722 u723 u724 u725 u726 u727 u728 u729 u730 u731 u732 u733 u734 u735 u736 u737 u738 u739 u740 u741 u742 u743 u744 u745 u746 u747 u748 u749 u750 u751 u752 u753 u754 u755 u756 u757 u758 u759 u760 u761 u762 u763 u764 u765 u766 u767 u768 u769 u770 u771 u772 u773 u774 u775 u776 u777 u778 u779 u780 u781 u782 u783 u784 u785 u786 u787 u788 u789 u790 u791 u792 u793 u794 u795 u796 u797 u798 u799 u800 u801 u802 u803 u804 u805 u806 u807 u808 u809 u810 u811 u812 u813 u814 u815 u816 u817 u818 u819 u820 u821 u822 u823 u824 u825 u826 u827 u828 u829 u830 u831 u832 u833 u834 u835 u836 u837 u838 u839 u840 u841 u842 u843 u844 u845 u846 u847 u848 u849 u850 u851 u852 u853 u854 u855 u856 u857 u858 u859 u860 u861 u862 u863 u864 u865 u866 u867 u868 u869 u870 u871 u872 u873 u874 u875 u876 u877 u878 u879 u880 u881 u882 u883 u884 : Value} (I : In) (B A cl n12 c12 n13 c13 : Nat) (p12 p13 : Option Addr) (v10 v11 : Value) (w0 w : World)
    (hb : Below w0.heap.size w0 w) (hF : I.Fine) (hB : Base I B w) (hs : w0.heap.size = B) (hO : I.Ok w0) (h0 : w.cell? ⟨B + 4, 0, none⟩ = some (.int .i64 0)) (hA : Agr I A I.la w) (hC : Cls I cl I.lc w) (h10 : v10 = .nilFunc ∨ ∃ f a b, v10 = .func f a b) (h11 : v11 = .nilIface ∨ ∃ t p, v11 = .iface t p) (hAw : A < w.heap.size) (hcw : cl < w.heap.size) (hX1 : B + 3 < A) (hX4 : cl ≠ A) :
    Code.wp Yba.prog (dropSeq 17 (Yba.f3.body.getD .skip)) (bodyPost Yba.prog Yba.f3 fun e w' => e = .returned (.bool true) ∧ Below w0.heap.size w0 w') ⟨(u0 :: u1 :: u2 :: u3 :: (.pointer (some ⟨B, 0, none⟩)) :: (.pointer (some ⟨B + 1, 0, none⟩)) :: (.pointer (some ⟨B + 2, 0, none⟩)) :: (.pointer (some ⟨B + 3, 0, none⟩)) :: u8 :: (.pointer (some ⟨B + 4, 0, none⟩)) :: v10 :: v11 :: (.slice p12 n12 c12) :: (.slice p13 n13 c13) :: (.slice (some ⟨A, 0, none⟩) I.la I.la) :: u15 :: u16 :: (.slice (some ⟨cl, 0, none⟩) I.lc I.lc) :: u18 :: u19 :: (.map none) :: (.slice none 0 0) :: u22 :: u23 :: u24 :: u25 :: u26 :: u27 :: u28 :: u29 :: u30 :: u31 :: u32 :: u33 :: u34 :: u35 :: u36 :: u37 :: u38 :: u39 :: u40 :: u41 :: u42 :: u43 :: u44 :: u45 :: u46 :: u47 :: u48 :: u49 :: u50 :: u51 :: u52 :: u53 :: u54 :: u55 :: u56 :: u57 :: u58 :: u59 :: u60 :: u61 :: u62 :: u63 :: u64 :: u65 :: u66 :: u67 :: u68 :: u69 :: u70 :: u71 :: u72 :: u73 :: u74 :: u75 :: u76 :: u77 :: u78 :: u79 :: u80 :: u81 :: u82 :: u83 :: u84 :: u85 :: u86 :: u87 :: u88 :: u89 :: u90 :: u91 :: u92 :: u93 :: u94 :: u95 :: u96 :: u97 :: u98 :: u99 :: u100 :: u101 :: u102 :: u103 :: u104 :: u105 :: u106 :: u107 :: u108 :: u109 :: u110 :: u111 :: u112 :: u113 :: u114 :: u115 :: u116 :: u117 :: u118 :: u119 :: u120 :: u121 :: u122 :: u123 :: u124 :: u125 :: u126 :: u127 :: u128 :: u129 :: u130 :: u131 :: u132 :: u133 :: u134 :: u135 :: u136 :: u137 :: u138 :: u139 :: u140 :: u141 :: u142 :: u143 :: u144 :: u145 :: u146 :: u147 :: u148 :: u149 :: u150 :: u151 :: u152 :: u153 :: u154 :: u155 :: u156 :: u157 :: u158 :: u159 :: u160 :: u161 :: u162 :: u163 :: u164 :: u165 :: u166 :: u167 :: u168 :: u169 :: u170 :: u171 :: u172 :: u173 :: u174 :: u175 :: u176 :: u177 :: u178 :: u179 :: u180 :: u181 :: u182 :: u183 :: u184 :: u185 :: u186 :: u187 :: u188 :: u189 :: u190 :: u191 :: u192 :: u193 :: u194 :: u195 :: u196 :: u197 :: u198 :: u199 :: u200 :: u201 :: u202 :: u203 :: u204 :: u205 :: u206 :: u207 :: u208 :: u209 :: u210 :: u211 :: u212 :: u213 :: u214 :: u215 :: u216 :: u217 :: u218 :: u219 :: u220 :: u221 :: u222 :: u223 :: u224 :: u225 :: u226 :: u227 :: u228 :: u229 :: u230 :: u231 :: u232 :: u233 :: u234 :: u235 :: u236 :: u237 :: u238 :: u239 :: u240 :: u241 :: u242 :: u243 :: u244 :: u245 :: u246 :: u247 :: u248 :: u249 :: u250 :: u251 :: u252 :: u253 :: u254 :: u255 :: u256 :: u257 :: u258 :: u259 :: u260 :: u261 :: u262 :: u263 :: u264 :: u265 :: u266 :: u267 :: u268 :: u269 :: u270 :: u271 :: u272 :: u273 :: u274 :: u275 :: u276 :: u277 :: u278 :: u279 :: u280 :: u281 :: u282 :: u283 :: u284 :: u285 :: u286 :: u287 :: u288 :: u289 :: u290 :: u291 :: u292 :: u293 :: u294 :: u295 :: u296 :: u297 :: u298 :: u299 :: u300 :: u301 :: u302 :: u303 :: u304 :: u305 :: u306 :: u307 :: u308 :: u309 :: u310 :: u311 :: u312 :: u313 :: u314 :: u315 :: u316 :: u317 :: u318 :: u319 :: u320 :: u321 :: u322 :: u323 :: u324 :: u325 :: u326 :: u327 :: u328 :: u329 :: u330 :: u331 :: u332 :: u333 :: u334 :: u335 :: u336 :: u337 :: u338 :: u339 :: u340 :: u341 :: u342 :: u343 :: u344 :: u345 :: u346 :: u347 :: u348 :: u349 :: u350 :: u351 :: u352 :: u353 :: u354 :: u355 :: u356 :: u357 :: u358 :: u359 :: u360 :: u361 :: u362 :: u363 :: u364 :: u365 :: u366 :: u367 :: u368 :: u369 :: u370 :: u371 :: u372 :: u373 :: u374 :: u375 :: u376 :: u377 :: u378 :: u379 :: u380 :: u381 :: u382 :: u383 :: u384 :: u385 :: u386 :: u387 :: u388 :: u389 :: u390 :: u391 :: u392 :: u393 :: u394 :: u395 :: u396 :: u397 :: u398 :: u399 :: u400 :: u401 :: u402 :: u403 :: u404 :: u405 :: u406 :: u407 :: u408 :: u409 :: u410 :: u411 :: u412 :: u413 :: u414 :: u415 :: u416 :: u417 :: u418 :: u419 :: u420 :: u421 :: u422 :: u423 :: u424 :: u425 :: u426 :: u427 :: u428 :: u429 :: u430 :: u431 :: u432 :: u433 :: u434 :: u435 :: u436 :: u437 :: u438 :: u439 :: u440 :: u441 :: u442 :: u443 :: u444 :: u445 :: u446 :: u447 :: u448 :: u449 :: u450 :: u451 :: u452 :: u453 :: u454 :: u455 :: u456 :: u457 :: u458 :: u459 :: u460 :: u461 :: u462 :: u463 :: u464 :: u465 :: u466 :: u467 :: u468 :: u469 :: u470 :: u471 :: u472 :: u473 :: u474 :: u475 :: u476 :: u477 :: u478 :: u479 :: u480 :: u481 :: u482 :: u483 :: u484 :: u485 :: u486 :: u487 :: u488 :: u489 :: u490 :: u491 :: u492 :: u493 :: u494 :: u495 :: u496 :: u497 :: u498 :: u499 :: u500 :: u501 :: u502 :: u503 :: u504 :: u505 :: u506 :: u507 :: u508 :: u509 :: u510 :: u511 :: u512 :: u513 :: u514 :: u515 :: u516 :: u517 :: u518 :: u519 :: u520 :: u521 :: u522 :: u523 :: u524 :: u525 :: u526 :: u527 :: u528 :: u529 :: u530 :: u531 :: u532 :: u533 :: u534 :: u535 :: u536 :: u537 :: u538 :: u539 :: u540 :: u541 :: u542 :: u543 :: u544 :: u545 :: u546 :: u547 :: u548 :: u549 :: u550 :: u551 :: u552 :: u553 :: u554 :: u555 :: u556 :: u557 :: u558 :: u559 :: u560 :: u561 :: u562 :: u563 :: u564 :: u565 :: u566 :: u567 :: u568 :: u569 :: u570 :: u571 :: u572 :: u573 :: u574 :: u575 :: u576 :: u577 :: u578 :: u579 :: u580 :: u581 :: u582 :: u583 :: u584 :: u585 :: u586 :: u587 :: u588 :: u589 :: u590 :: u591 :: u592 :: u593 :: u594 :: u595 :: u596 :: u597 :: u598 :: u599 :: u600 :: u601 :: u602 :: u603 :: u604 :: u605 :: u606 :: u607 :: u608 :: u609 :: u610 :: u611 :: u612 :: u613 :: u614 :: u615 :: u616 :: u617 :: u618 :: u619 :: u620 :: u621 :: u622 :: u623 :: u624 :: u625 :: u626 :: u627 :: u628 :: u629 :: u630 :: u631 :: u632 :: u633 :: u634 :: u635 :: u636 :: u637 :: u638 :: u639 :: u640 :: u641 :: u642 :: u643 :: u644 :: u645 :: u646 :: u647 :: u648 :: u649 :: u650 :: u651 :: u652 :: u653 :: u654 :: u655 :: u656 :: u657 :: u658 :: u659 :: u660 :: u661 :: u662 :: u663 :: u664 :: u665 :: u666 :: u667 :: u668 :: u669 :: u670 :: u671 :: u672 :: u673 :: u674 :: u675 :: u676 :: u677 :: u678 :: u679 :: u680 :: u681 :: u682 :: u683 :: u684 :: u685 :: u686 :: u687 :: u688 :: u689 :: u690 :: u691 :: u692 :: u693 :: u694 :: u695 :: u696 :: u697 :: u698 :: u699 :: u700 :: u701 :: u702 :: u703 :: u704 :: u705 :: u706 :: u707 :: u708 :: u709 :: u710 :: u711 :: u712 :: u713 :: u714 :: u715 :: u716 :: u717 :: u718 :: u719 :: u720 :: u721 :: u722 :: u723 :: u724 :: u725 :: u726 :: u727 :: u728 :: u729 :: u730 :: u731 :: u732 :: u733 :: u734 :: u735 :: u736 :: u737 :: u738 :: u739 :: u740 :: u741 :: u742 :: u743 :: u744 :: u745 :: u746 :: u747 :: u748 :: u749 :: u750 :: u751 :: u752 :: u753 :: u754 :: u755 :: u756 :: u757 :: u758 :: u759 :: u760 :: u761 :: u762 :: u763 :: u764 :: u765 :: u766 :: u767 :: u768 :: u769 :: u770 :: u771 :: u772 :: u773 :: u774 :: u775 :: u776 :: u777 :: u778 :: u779 :: u780 :: u781 :: u782 :: u783 :: u784 :: u785 :: u786 :: u787 :: u788 :: u789 :: u790 :: u791 :: u792 :: u793 :: u794 :: u795 :: u796 :: u797 :: u798 :: u799 :: u800 :: u801 :: u802 :: u803 :: u804 :: u805 :: u806 :: u807 :: u808 :: u809 :: u810 :: u811 :: u812 :: u813 :: u814 :: u815 :: u816 :: u817 :: u818 :: u819 :: u820 :: u821 :: u822 :: u823 :: u824 :: u825 :: u826 :: u827 :: u828 :: u829 :: u830 :: u831 :: u832 :: u833 :: u834 :: u835 :: u836 :: u837 :: u838 :: u839 :: u840 :: u841 :: u842 :: u843 :: u844 :: u845 :: u846 :: u847 :: u848 :: u849 :: u850 :: u851 :: u852 :: u853 :: u854 :: u855 :: u856 :: u857 :: u858 :: u859 :: u860 :: u861 :: u862 :: u863 :: u864 :: u865 :: u866 :: u867 :: u868 :: u869 :: u870 :: u871 :: u872 :: u873 :: u874 :: u875 :: u876 :: u877 :: u878 :: u879 :: u880 :: u881 :: u882 :: u883 :: u884 :: []).toArray, []⟩ w := by
  refine seq_split _ _ 17 _ _ _ rfl ?_
  apply s17 (hF := hF) (hB := hB)
  intros
  rename_i v1 h1
  obtain ⟨b1, hS1⟩ := h1
  have bw1 : Below w.heap.size w v1 := b1
  have sz1 : w.heap.size < v1.heap.size := heap_lt hS1.row.choose_spec.1
  refine seq_split _ _ 18 _ _ _ rfl ?_
  apply s18 (hF := hF) (hS := hS1) (hSw := sz1)
  refine Hid.mk ?_
  intros
  rename_i v2 h2
  obtain ⟨Lb, hLb, hS2, hge, k2⟩ := h2
  have bw2 : Below w.heap.size w v2 := bw1.trans (k2.below bw1.size (fun k hk => by omega))
  have hB2 := hB.later bw2
  have hb2 : Below w0.heap.size w0 v2 := hb.trans (bw2.mono hb.size)
  refine seq_split _ _ 19 _ _ _ rfl ?_
  apply s19 (hF := hF) (hB := hB2)
  intros
  rename_i v3 h3
  obtain ⟨b3, hR3⟩ := h3
  have bw3 : Below w.heap.size w v3 := bw2.trans (b3.mono bw2.size)
  have hb3 : Below w0.heap.size w0 v3 := hb.trans (bw3.mono hb.size)
  have hS3 := hS2.kept (Kept.of_below (S := fun _ => False) b3) (fun x => x) (fun _ _ x => x)
  refine seq_split _ _ 20 _ _ _ rfl ?_
  apply s20 (hF := hF) (hB := hB.later bw3) (hO := hO) (hs := hs) (hb := by rw [← hs]; exact hb3) (hA := hR3) (hBA := by have := bw2.size; have := World.block_lt_of_cell? w _ h0; show B + 3 < v2.heap.size; omega)
  intros
  rename_i v4 h4
  obtain ⟨_, k4⟩ := h4
  have b4 : Below v2.heap.size v2 v4 := b3.trans (k4.below b3.size (fun k hk => by omega))
  refine seq_split _ _ 21 _ _ _ rfl ?_
  have bw4 : Below w.heap.size w v4 := bw2.trans (b4.mono bw2.size)
  apply s21 (hF := hF) (hB := hB.later bw4)
  intros
  rename_i v5 h5
  obtain ⟨b5, hR5⟩ := h5
  have b25 : Below v2.heap.size v2 v5 := b4.trans (b5.mono b4.size)
  have bw5 : Below w.heap.size w v5 := bw2.trans (b25.mono bw2.size)
  refine seq_split _ _ 22 _ _ _ rfl ?_
  apply s22 (hF := hF) (hB := hB.later bw5) (hO := hO) (hs := hs) (hb := by rw [← hs]; exact hb.trans (bw5.mono hb.size)) (hA := hR5) (hBA := by have := bw4.size; have := World.block_lt_of_cell? w _ h0; show B + 3 < v4.heap.size; omega)
  intros
  rename_i v6 h6
  obtain ⟨_, k6⟩ := h6
  have b26 : Below v2.heap.size v2 v6 := b25.trans (k6.below b25.size (fun k hk => by have := b4.size; omega))
  refine seq_split _ _ 23 _ _ _ rfl ?_
  apply s23
  intros
  rename_i v7 h7
  obtain rfl := h7.symm
  have bw6 : Below w.heap.size w v6 := bw2.trans (b26.mono bw2.size)
  refine seq_split _ _ 24 _ _ _ rfl ?_
  apply s24 (hF := hF) (hB := hB.later bw6) (hO := hO) (hs := hs) (hb := by rw [← hs]; exact hb.trans (bw6.mono hb.size))
  refine Hid.mk ?_
  intros
  rename_i ri v8 h8
  obtain ⟨b8, hi8⟩ := h8
  have b28 : Below v2.heap.size v2 v8 := b26.trans (b8.mono b26.size)
  have bw8 : Below w.heap.size w v8 := bw2.trans (b28.mono bw2.size)
  refine seq_split _ _ 25 _ _ _ rfl ?_
  apply s25 (hF := hF) (hB := hB.later bw8) (hO := hO) (hs := hs) (hb := by rw [← hs]; exact hb.trans (bw8.mono hb.size))
  intros
  rename_i q1 v9 h9
  obtain ⟨g1, b9⟩ := h9
  have b29 : Below v2.heap.size v2 v9 := b28.trans (b9.mono b28.size)
  have bw9 : Below w.heap.size w v9 := bw2.trans (b29.mono bw2.size)
  refine seq_split _ _ 26 _ _ _ rfl ?_
  apply s26 (hF := hF) (hB := hB.later bw9) (hO := hO) (hs := hs) (hb := by rw [← hs]; exact hb.trans (bw9.mono hb.size))
  intros
  rename_i q2 v10' h10'
  obtain ⟨g2, b10⟩ := h10'
  have b210 : Below v2.heap.size v2 v10' := b29.trans (b10.mono b29.size)
  have bw10 : Below w.heap.size w v10' := bw2.trans (b210.mono bw2.size)
  refine seq_split _ _ 27 _ _ _ rfl ?_
  apply s27 (hF := hF) (hB := hB.later bw10) (hO := hO) (hs := hs) (hb := by rw [← hs]; exact hb.trans (bw10.mono hb.size))
  intros
  rename_i q3 v11' h11'
  obtain ⟨g3, b11⟩ := h11'
  have b211 : Below v2.heap.size v2 v11' := b210.trans (b11.mono b210.size)
  have bw11 : Below w.heap.size w v11' := bw2.trans (b211.mono bw2.size)
  have kf : Kept (fun _ => False) w v11' := Kept.of_below bw11
  have sz2 := k2.size
  have hp2 : ∀ p, p ∈ Lb → p < v2.heap.size := fun p hp => by
    obtain ⟨i, hi⟩ := List.getElem?_of_mem hp
    exact World.block_lt_of_cell? v2 _ (hS2.idx i p hi).1
  apply t28n (A := A) (hb := hb.trans (bw11.mono hb.size)) (hF := hF) (hB := hB.later bw11) (hs := hs) (hO := hO) (h0 := kf.cell h0 (fun x => x)) (hA := ⟨hA.row.kept kf (fun x => x), fun j hj => kf.cell (hA.at0 j hj) (fun x => x), fun j hj => kf.cell (hA.at1 j hj) (fun x => x)⟩)
    (hC := ⟨hC.row.kept kf (fun x => x), fun j hj => kf.cell (hC.at0 j hj) (fun x => x)⟩) (hS := hS2.kept (Kept.of_below (S := fun _ => False) b211) (fun x => x) (fun _ _ x => x)) (hLb := hLb) (h10 := h10) (h11 := h11) (g1 := g1) (g2 := g2) (g3 := g3)
    (hi := fun m hm => by
      obtain ⟨n, D, h2, h3, h4⟩ := hi8 m hm
      refine ⟨n, D, map_kept h2 (Kept.of_below (S := fun _ => False) ((b9.trans (b10.mono b9.size)).trans (b11.mono (b9.trans (b10.mono b9.size)).size))) (fun x => x), h3, ?_⟩
      have := b26.size; have := bw2.size; have := hb.size; omega)
    (hAw := by have := bw11.size; omega) (hcw := by have := bw11.size; omega) (hX1 := hX1) (hX2 := by omega) (hX3 := fun p hp => by have := hge p hp; omega) (hX4 := hX4)


set_option maxHeartbeats 4000000 in
set_option maxRecDepth 100000 in
theorem t17s {u0 u1 u2 u3 u8 u15 u16 u18 u19 u22 u23 u24 u25 u26 u27 u28 u29 u30 u31 u32 u33 u34 u35 u36 u37 u38 u39 u40 u41 u42 u43 u44 u45 u46 u47 u48 u49 u50 u51 u52 u53 u54 u55 u56 u57 u58 u59 u60 u61 u62 u63 u64 u65 u66 u67 u68 u69 u70 u71 u72 u73 u74 u75 u76 u77 u78 u79 u80 u81 u82 u83 u84 u85 u86 u87 u88 u89 u90 u91 u92 u93 u94 u95 u96 u97 u98 u99 u100 u101 u102 u103 u104 u105 u106 u107 u108 u109 u110 u111 u112 u113 u114 u115 u116 u117 u118 u119 u120 u121 u122 u123 u124 u125 u126 u127 u128 u129 u130 u131 u132 u133 u134 u135 u136 u137 u138 u139 u140 u141 u142 u143 u144 u145 u146 u147 u148 u149 u150 u151 u152 u153 u154 u155 u156 u157 u158 u159 u160 u161 u162 u163 u164 u165 u166 u167 u168 u169 u170 u171 u172 u173 u174 u175 u176 u177 u178 u179 u180 u181 u182 u183 u184 u185 u186 u187 u188 u189 u190 u191 u192 u193 u194 u195 u196 u197 u198 u199 u200 u201 u202 u203 u204 u205 u206 u207 u208 u209 u210 u211 u212 u213 u214 u215 u216 u217 u218 u219 u220 u221 u222 u223 u224 u225 u226 u227 u228 u229 u230 u231 u232 u233 u234 u235 u236 u237 u238 u239 u240 u241 u242 u243 u244 u245 u246 u247 u248 u249 u250 u251 u252 u253 u254 u255 u256 u257 u258 u259 u260 u261 u262 u263 u264 u265 u266 u267 u268 u269 u270 u271 u272 u273 u274 u275 u276 u277 u278 u279 u280 u281 u282 u283 u284 u285 u286 u287 u288 u289 u290 u291 u292 u293 u294 u295 u296 u297 u298 u299 u300 u301 u302 u303 u304 u305 u306 u307 u308 u309 u310 u311 u312 u313 u314 u315 u316 u317 u318 u319 u320 u321 u322 u323 u324 u325 u326 u327 u328 u329 u330 u331 u332 u333 u334 u335 u336 u337 u338 u339 u340 u341 u342 u343 u344 u345 u346 u347 u348 u349 u350 u351 u352 u353 u354 u355 u356 u357 u358 u359 u360 u361 u362 u363 u364 u365 u366 u367 u368 u369 u370 u371 u372 u373 u374 u375 u376 u377 u378 u379 u380 u381 u382 u383 u384 u385 u386 u387 u388 u389 u390 u391 u392 u393 u394 u395 u396 u397 u398 u399 u400 u401 u402 u403 u404 u405 u406 u407 u408 u409 u410 u411 u412 u413 u414 u415 u416 u417 u418 u419 u420 u421 u422 u423 u424 u425 u426 u427 u428 u429 u430 u431 u432 u433 u434 u435 u436 u437 u438 u439 u440 u441 u442 u443 u444 u445 u446 u447 u448 u449 u450 u451 u452 u453 u454 u455 u456 u457 u458 u459 u460 u461 u462 u463 u464 u465 u466 u467 u468 u469 u470 u471 u472 u473 u474 u475 u476 u477 u478 u479 u480 u481 u482 u483 u484 u485 u486 u487 u488 u489 u490 u491 u492 u493 u494 u495 u496 u497 u498 u499 u500 u501 u502 u503 u504 u505 u506 u507 u508 u509 u510 u511 u512 u513 u514 u515 u516 u517 u518 u519 u520 u521 u522 u523 u524 u525 u526 u527 u528 u529 u530 u531 u532 u533 u534 u535 u536 u537 u538 u539 u540 u541 u542 u543 u544 u545 u546 u547 u548 u549 u550 u551 u552 u553 u554 u555 u556 u557 u558 u559 u560 u561 u562 u563 u564 u565 u566 u567 u568 u569 u570 u571 u572 u573 u574 u575 u576 u577 u578 u579 u580 u581 u582 u583 u584 u585 u586 u587 u588 u589 u590 u591 u592 u593 u594 u595 u596 u597 u598 u599 u600 u601 u602 u603 u604 u605 u606 u607 u608 u609 u610 u611 u612 u613 u614 u615 u616 u617 u618 u619 u620 u621 u622 u623 u624 u625 u626 u627 u628 u629 u630 u631 u632 u633 u634 u635 u636 u637 u638 u639 u640 u641 u642 u643 u644 u645 u646 u647 u648 u649 u650 u651 u652 u653 u654 u655 u656 u657 u658 u659 u660 u661 u662 u663 u664 u665 u666 u667 u668 u669 u670 u671 u672 u673 u674 u675 u676 u677 u678 u679 u680 u681 u682 u683 u684 u685 u686 u687 u688 u689 u690 u691 u692 u693 u694 u695 u696 u697 u698 u699 u700 u701 u702 u703 u704 u705 u706 u707 u708 u709 u710 u711 u712 u713 u714 u715 u716 u717 u718 u719 u720 u721 u722 u723 u724 u725 u726 u727 u728 u729 u730 u731 u732 u733 u734 u735 u736 u737 u738 u739 u740 u741 u742 u743 u744 u745 u746 u747 u748 u749 u750 u751 u752 u753 u754 u755 u756 u757 u758 u759 u760 u761 u762 u763 u764 u765 u766 u767 u768 u769 u770 u771 u772 u773 u774 u775 u776 u777 u778 u779 u780 u781 u782 u783 u784 u785 u786 u787 u788 u789 u790 u791 u792 u793 u794 u795 u796 u797 u798 u799 u800 u801 u802 u803 u804 u805 u806 u807 u808 u809 u810 u811 u812 u813 u814 u815 u816 u817 u818 u819 u820 u821 u822 u823 u824 u825 u826 u827 u828 u829 u830 u831 u832 u833 u834 u835 u836 u837 u838 u839 u840 u841 u842 u843 u844 u845 u846 u847 u848 u849 u850 u851 u852 u853 u854 u855 u856 u857 u858 u859 u860 u861 u862 u863 u864 u865 u866 u867 u868 u869 u870 u871 u872 u873 u874 u875 u876 u877 u878 u879 u880 u881 u882 u883 u884 : Value} (I : In) (B A cl M N nL cL n12 c12 n13 c13 : Nat) (Lv : List Addr) (p12 p13 pL : Option Addr) (v10 v11 : Value) (w0 w : World)
    (D : DataW (Option Addr)) (hb : Below w0.heap.size w0 w) (hF : I.Fine) (hB : Base I B w) (hs : w0.heap.size = B) (hO : I.Ok w0) (h0 : w.cell? ⟨B + 4, 0, none⟩ = some (.int .i64 0)) (hA : Agr I A I.la w) (hC : Cls I cl I.lc w) (h10 : v10 = .nilFunc ∨ ∃ f a b, v10 = .func f a b) (h11 : v11 = .nilIface ∨ ∃ t p, v11 = .iface t p) (hAw : A < w.heap.size) (hcw : cl < w.heap.size) (hX1 : B + 3 < A) (hX4 : cl ≠ A) (hown : w.ownsMap Yba.prog 9 ptrR M N D) (hinj : ∀ k1 k2 p, (∀ zd, D.atKey k1 zd = .held (some p)) → (∀ zd, D.atKey k2 zd = .held (some p)) → k1 = k2) (hmem : ∀ p, p ∈ Lv ↔ ∃ kl, Maps.has D kl = true ∧ ∀ zd, D.atKey kl zd = .held (some p)) (hndv : Lv.Nodup) (hLv : Lv.length = nL) (hN : N ≤ 1024) (hl2 : nL ≤ 1024) (hMb : w0.heap.size ≤ M) (hv : Has w pL nL (fun k => .pointer Lv[k]?)) (hh : ∀ p, p ∈ Lv → ∃ cs t, w.heap[p.block]? = some (.cells cs t (0, 0))) (hX5 : 0 < nL → ∀ x, pL = some x → x.block ≠ A) (hX6 : ∀ p, p ∈ Lv → p.block ≠ A) (hMA : M ≠ A) (hMc : M ≠ cl) :
    Code.wp Yba.prog (dropSeq 17 (Yba.f3.body.getD .skip)) (bodyPost Yba.prog Yba.f3 fun e w' => e = .returned (.bool true) ∧ Below w0.heap.size w0 w') ⟨(u0 :: u1 :: u2 :: u3 :: (.pointer (some ⟨B, 0, none⟩)) :: (.pointer (some ⟨B + 1, 0, none⟩)) :: (.pointer (some ⟨B + 2, 0, none⟩)) :: (.pointer (some ⟨B + 3, 0, none⟩)) :: u8 :: (.pointer (some ⟨B + 4, 0, none⟩)) :: v10 :: v11 :: (.slice p12 n12 c12) :: (.slice p13 n13 c13) :: (.slice (some ⟨A, 0, none⟩) I.la I.la) :: u15 :: u16 :: (.slice (some ⟨cl, 0, none⟩) I.lc I.lc) :: u18 :: u19 :: (.map (some M)) :: (.slice pL nL cL) :: u22 :: u23 :: u24 :: u25 :: u26 :: u27 :: u28 :: u29 :: u30 :: u31 :: u32 :: u33 :: u34 :: u35 :: u36 :: u37 :: u38 :: u39 :: u40 :: u41 :: u42 :: u43 :: u44 :: u45 :: u46 :: u47 :: u48 :: u49 :: u50 :: u51 :: u52 :: u53 :: u54 :: u55 :: u56 :: u57 :: u58 :: u59 :: u60 :: u61 :: u62 :: u63 :: u64 :: u65 :: u66 :: u67 :: u68 :: u69 :: u70 :: u71 :: u72 :: u73 :: u74 :: u75 :: u76 :: u77 :: u78 :: u79 :: u80 :: u81 :: u82 :: u83 :: u84 :: u85 :: u86 :: u87 :: u88 :: u89 :: u90 :: u91 :: u92 :: u93 :: u94 :: u95 :: u96 :: u97 :: u98 :: u99 :: u100 :: u101 :: u102 :: u103 :: u104 :: u105 :: u106 :: u107 :: u108 :: u109 :: u110 :: u111 :: u112 :: u113 :: u114 :: u115 :: u116 :: u117 :: u118 :: u119 :: u120 :: u121 :: u122 :: u123 :: u124 :: u125 :: u126 :: u127 :: u128 :: u129 :: u130 :: u131 :: u132 :: u133 :: u134 :: u135 :: u136 :: u137 :: u138 :: u139 :: u140 :: u141 :: u142 :: u143 :: u144 :: u145 :: u146 :: u147 :: u148 :: u149 :: u150 :: u151 :: u152 :: u153 :: u154 :: u155 :: u156 :: u157 :: u158 :: u159 :: u160 :: u161 :: u162 :: u163 :: u164 :: u165 :: u166 :: u167 :: u168 :: u169 :: u170 :: u171 :: u172 :: u173 :: u174 :: u175 :: u176 :: u177 :: u178 :: u179 :: u180 :: u181 :: u182 :: u183 :: u184 :: u185 :: u186 :: u187 :: u188 :: u189 :: u190 :: u191 :: u192 :: u193 :: u194 :: u195 :: u196 :: u197 :: u198 :: u199 :: u200 :: u201 :: u202 :: u203 :: u204 :: u205 :: u206 :: u207 :: u208 :: u209 :: u210 :: u211 :: u212 :: u213 :: u214 :: u215 :: u216 :: u217 :: u218 :: u219 :: u220 :: u221 :: u222 :: u223 :: u224 :: u225 :: u226 :: u227 :: u228 :: u229 :: u230 :: u231 :: u232 :: u233 :: u234 :: u235 :: u236 :: u237 :: u238 :: u239 :: u240 :: u241 :: u242 :: u243 :: u244 :: u245 :: u246 :: u247 :: u248 :: u249 :: u250 :: u251 :: u252 :: u253 :: u254 :: u255 :: u256 :: u257 :: u258 :: u259 :: u260 :: u261 :: u262 :: u263 :: u264 :: u265 :: u266 :: u267 :: u268 :: u269 :: u270 :: u271 :: u272 :: u273 :: u274 :: u275 :: u276 :: u277 :: u278 :: u279 :: u280 :: u281 :: u282 :: u283 :: u284 :: u285 :: u286 :: u287 :: u288 :: u289 :: u290 :: u291 :: u292 :: u293 :: u294 :: u295 :: u296 :: u297 :: u298 :: u299 :: u300 :: u301 :: u302 :: u303 :: u304 :: u305 :: u306 :: u307 :: u308 :: u309 :: u310 :: u311 :: u312 :: u313 :: u314 :: u315 :: u316 :: u317 :: u318 :: u319 :: u320 :: u321 :: u322 :: u323 :: u324 :: u325 :: u326 :: u327 :: u328 :: u329 :: u330 :: u331 :: u332 :: u333 :: u334 :: u335 :: u336 :: u337 :: u338 :: u339 :: u340 :: u341 :: u342 :: u343 :: u344 :: u345 :: u346 :: u347 :: u348 :: u349 :: u350 :: u351 :: u352 :: u353 :: u354 :: u355 :: u356 :: u357 :: u358 :: u359 :: u360 :: u361 :: u362 :: u363 :: u364 :: u365 :: u366 :: u367 :: u368 :: u369 :: u370 :: u371 :: u372 :: u373 :: u374 :: u375 :: u376 :: u377 :: u378 :: u379 :: u380 :: u381 :: u382 :: u383 :: u384 :: u385 :: u386 :: u387 :: u388 :: u389 :: u390 :: u391 :: u392 :: u393 :: u394 :: u395 :: u396 :: u397 :: u398 :: u399 :: u400 :: u401 :: u402 :: u403 :: u404 :: u405 :: u406 :: u407 :: u408 :: u409 :: u410 :: u411 :: u412 :: u413 :: u414 :: u415 :: u416 :: u417 :: u418 :: u419 :: u420 :: u421 :: u422 :: u423 :: u424 :: u425 :: u426 :: u427 :: u428 :: u429 :: u430 :: u431 :: u432 :: u433 :: u434 :: u435 :: u436 :: u437 :: u438 :: u439 :: u440 :: u441 :: u442 :: u443 :: u444 :: u445 :: u446 :: u447 :: u448 :: u449 :: u450 :: u451 :: u452 :: u453 :: u454 :: u455 :: u456 :: u457 :: u458 :: u459 :: u460 :: u461 :: u462 :: u463 :: u464 :: u465 :: u466 :: u467 :: u468 :: u469 :: u470 :: u471 :: u472 :: u473 :: u474 :: u475 :: u476 :: u477 :: u478 :: u479 :: u480 :: u481 :: u482 :: u483 :: u484 :: u485 :: u486 :: u487 :: u488 :: u489 :: u490 :: u491 :: u492 :: u493 :: u494 :: u495 :: u496 :: u497 :: u498 :: u499 :: u500 :: u501 :: u502 :: u503 :: u504 :: u505 :: u506 :: u507 :: u508 :: u509 :: u510 :: u511 :: u512 :: u513 :: u514 :: u515 :: u516 :: u517 :: u518 :: u519 :: u520 :: u521 :: u522 :: u523 :: u524 :: u525 :: u526 :: u527 :: u528 :: u529 :: u530 :: u531 :: u532 :: u533 :: u534 :: u535 :: u536 :: u537 :: u538 :: u539 :: u540 :: u541 :: u542 :: u543 :: u544 :: u545 :: u546 :: u547 :: u548 :: u549 :: u550 :: u551 :: u552 :: u553 :: u554 :: u555 :: u556 :: u557 :: u558 :: u559 :: u560 :: u561 :: u562 :: u563 :: u564 :: u565 :: u566 :: u567 :: u568 :: u569 :: u570 :: u571 :: u572 :: u573 :: u574 :: u575 :: u576 :: u577 :: u578 :: u579 :: u580 :: u581 :: u582 :: u583 :: u584 :: u585 :: u586 :: u587 :: u588 :: u589 :: u590 :: u591 :: u592 :: u593 :: u594 :: u595 :: u596 :: u597 :: u598 :: u599 :: u600 :: u601 :: u602 :: u603 :: u604 :: u605 :: u606 :: u607 :: u608 :: u609 :: u610 :: u611 :: u612 :: u613 :: u614 :: u615 :: u616 :: u617 :: u618 :: u619 :: u620 :: u621 :: u622 :: u623 :: u624 :: u625 :: u626 :: u627 :: u628 :: u629 :: u630 :: u631 :: u632 :: u633 :: u634 :: u635 :: u636 :: u637 :: u638 :: u639 :: u640 :: u641 :: u642 :: u643 :: u644 :: u645 :: u646 :: u647 :: u648 :: u649 :: u650 :: u651 :: u652 :: u653 :: u654 :: u655 :: u656 :: u657 :: u658 :: u659 :: u660 :: u661 :: u662 :: u663 :: u664 :: u665 :: u666 :: u667 :: u668 :: u669 :: u670 :: u671 :: u672 :: u673 :: u674 :: u675 :: u676 :: u677 :: u678 :: u679 :: u680 :: u681 :: u682 :: u683 :: u684 :: u685 :: u686 :: u687 :: u688 :: u689 :: u690 :: u691 :: u692 :: u693 :: u694 :: u695 :: u696 :: u697 :: u698 :: u699 :: u700 :: u701 :: u702 :: u703 :: u704 :: u705 :: u706 :: u707 :: u708 :: u709 :: u710 :: u711 :: u712 :: u713 :: u714 :: u715 :: u716 :: u717 :: u718 :: u719 :: u720 :: u721 :: u722 :: u723 :: u724 :: u725 :: u726 :: u727 :: u728 :: u729 :: u730 :: u731 :: u732 :: u733 :: u734 :: u735 :: u736 :: u737 :: u738 :: u739 :: u740 :: u741 :: u742 :: u743 :: u744 :: u745 :: u746 :: u747 :: u748 :: u749 :: u750 :: u751 :: u752 :: u753 :: u754 :: u755 :: u756 :: u757 :: u758 :: u759 :: u760 :: u761 :: u762 :: u763 :: u764 :: u765 :: u766 :: u767 :: u768 :: u769 :: u770 :: u771 :: u772 :: u773 :: u774 :: u775 :: u776 :: u777 :: u778 :: u779 :: u780 :: u781 :: u782 :: u783 :: u784 :: u785 :: u786 :: u787 :: u788 :: u789 :: u790 :: u791 :: u792 :: u793 :: u794 :: u795 :: u796 :: u797 :: u798 :: u799 :: u800 :: u801 :: u802 :: u803 :: u804 :: u805 :: u806 :: u807 :: u808 :: u809 :: u810 :: u811 :: u812 :: u813 :: u814 :: u815 :: u816 :: u817 :: u818 :: u819 :: u820 :: u821 :: u822 :: u823 :: u824 :: u825 :: u826 :: u827 :: u828 :: u829 :: u830 :: u831 :: u832 :: u833 :: u834 :: u835 :: u836 :: u837 :: u838 :: u839 :: u840 :: u841 :: u842 :: u843 :: u844 :: u845 :: u846 :: u847 :: u848 :: u849 :: u850 :: u851 :: u852 :: u853 :: u854 :: u855 :: u856 :: u857 :: u858 :: u859 :: u860 :: u861 :: u862 :: u863 :: u864 :: u865 :: u866 :: u867 :: u868 :: u869 :: u870 :: u871 :: u872 :: u873 :: u874 :: u875 :: u876 :: u877 :: u878 :: u879 :: u880 :: u881 :: u882 :: u883 :: u884 :: []).toArray, []⟩ w := by
  refine seq_split _ _ 17 _ _ _ rfl ?_
  apply s17 (hF := hF) (hB := hB)
  intros
  rename_i v1 h1
  obtain ⟨b1, hS1⟩ := h1
  have bw1 : Below w.heap.size w v1 := b1
  have sz1 : w.heap.size < v1.heap.size := heap_lt hS1.row.choose_spec.1
  refine seq_split _ _ 18 _ _ _ rfl ?_
  apply s18 (hF := hF) (hS := hS1) (hSw := sz1)
  refine Hid.mk ?_
  intros
  rename_i v2 h2
  obtain ⟨Lb, hLb, hS2, hge, k2⟩ := h2
  have bw2 : Below w.heap.size w v2 := bw1.trans (k2.below bw1.size (fun k hk => by omega))
  have hB2 := hB.later bw2
  have hb2 : Below w0.heap.size w0 v2 := hb.trans (bw2.mono hb.size)
  refine seq_split _ _ 19 _ _ _ rfl ?_
  apply s19 (hF := hF) (hB := hB2)
  intros
  rename_i v3 h3
  obtain ⟨b3, hR3⟩ := h3
  have bw3 : Below w.heap.size w v3 := bw2.trans (b3.mono bw2.size)
  have hb3 : Below w0.heap.size w0 v3 := hb.trans (bw3.mono hb.size)
  have hS3 := hS2.kept (Kept.of_below (S := fun _ => False) b3) (fun x => x) (fun _ _ x => x)
  refine seq_split _ _ 20 _ _ _ rfl ?_
  apply s20 (hF := hF) (hB := hB.later bw3) (hO := hO) (hs := hs) (hb := by rw [← hs]; exact hb3) (hA := hR3) (hBA := by have := bw2.size; have := World.block_lt_of_cell? w _ h0; show B + 3 < v2.heap.size; omega)
  intros
  rename_i v4 h4
  obtain ⟨_, k4⟩ := h4
  have b4 : Below v2.heap.size v2 v4 := b3.trans (k4.below b3.size (fun k hk => by omega))
  refine seq_split _ _ 21 _ _ _ rfl ?_
  have bw4 : Below w.heap.size w v4 := bw2.trans (b4.mono bw2.size)
  apply s21 (hF := hF) (hB := hB.later bw4)
  intros
  rename_i v5 h5
  obtain ⟨b5, hR5⟩ := h5
  have b25 : Below v2.heap.size v2 v5 := b4.trans (b5.mono b4.size)
  have bw5 : Below w.heap.size w v5 := bw2.trans (b25.mono bw2.size)
  refine seq_split _ _ 22 _ _ _ rfl ?_
  apply s22 (hF := hF) (hB := hB.later bw5) (hO := hO) (hs := hs) (hb := by rw [← hs]; exact hb.trans (bw5.mono hb.size)) (hA := hR5) (hBA := by have := bw4.size; have := World.block_lt_of_cell? w _ h0; show B + 3 < v4.heap.size; omega)
  intros
  rename_i v6 h6
  obtain ⟨_, k6⟩ := h6
  have b26 : Below v2.heap.size v2 v6 := b25.trans (k6.below b25.size (fun k hk => by have := b4.size; omega))
  refine seq_split _ _ 23 _ _ _ rfl ?_
  apply s23
  intros
  rename_i v7 h7
  obtain rfl := h7.symm
  have bw6 : Below w.heap.size w v6 := bw2.trans (b26.mono bw2.size)
  refine seq_split _ _ 24 _ _ _ rfl ?_
  apply s24 (hF := hF) (hB := hB.later bw6) (hO := hO) (hs := hs) (hb := by rw [← hs]; exact hb.trans (bw6.mono hb.size))
  refine Hid.mk ?_
  intros
  rename_i ri v8 h8
  obtain ⟨b8, hi8⟩ := h8
  have b28 : Below v2.heap.size v2 v8 := b26.trans (b8.mono b26.size)
  have bw8 : Below w.heap.size w v8 := bw2.trans (b28.mono bw2.size)
  refine seq_split _ _ 25 _ _ _ rfl ?_
  apply s25 (hF := hF) (hB := hB.later bw8) (hO := hO) (hs := hs) (hb := by rw [← hs]; exact hb.trans (bw8.mono hb.size))
  intros
  rename_i q1 v9 h9
  obtain ⟨g1, b9⟩ := h9
  have b29 : Below v2.heap.size v2 v9 := b28.trans (b9.mono b28.size)
  have bw9 : Below w.heap.size w v9 := bw2.trans (b29.mono bw2.size)
  refine seq_split _ _ 26 _ _ _ rfl ?_
  apply s26 (hF := hF) (hB := hB.later bw9) (hO := hO) (hs := hs) (hb := by rw [← hs]; exact hb.trans (bw9.mono hb.size))
  intros
  rename_i q2 v10' h10'
  obtain ⟨g2, b10⟩ := h10'
  have b210 : Below v2.heap.size v2 v10' := b29.trans (b10.mono b29.size)
  have bw10 : Below w.heap.size w v10' := bw2.trans (b210.mono bw2.size)
  refine seq_split _ _ 27 _ _ _ rfl ?_
  apply s27 (hF := hF) (hB := hB.later bw10) (hO := hO) (hs := hs) (hb := by rw [← hs]; exact hb.trans (bw10.mono hb.size))
  intros
  rename_i q3 v11' h11'
  obtain ⟨g3, b11⟩ := h11'
  have b211 : Below v2.heap.size v2 v11' := b210.trans (b11.mono b210.size)
  have bw11 : Below w.heap.size w v11' := bw2.trans (b211.mono bw2.size)
  have kf : Kept (fun _ => False) w v11' := Kept.of_below bw11
  have sz2 := k2.size
  have hp2 : ∀ p, p ∈ Lb → p < v2.heap.size := fun p hp => by
    obtain ⟨i, hi⟩ := List.getElem?_of_mem hp
    exact World.block_lt_of_cell? v2 _ (hS2.idx i p hi).1
  apply t28s (A := A) (D := D) (Lv := Lv) (hb := hb.trans (bw11.mono hb.size)) (hF := hF) (hB := hB.later bw11) (hs := hs) (hO := hO) (h0 := kf.cell h0 (fun x => x)) (hA := ⟨hA.row.kept kf (fun x => x), fun j hj => kf.cell (hA.at0 j hj) (fun x => x), fun j hj => kf.cell (hA.at1 j hj) (fun x => x)⟩)
    (hC := ⟨hC.row.kept kf (fun x => x), fun j hj => kf.cell (hC.at0 j hj) (fun x => x)⟩) (hS := hS2.kept (Kept.of_below (S := fun _ => False) b211) (fun x => x) (fun _ _ x => x)) (hLb := hLb) (h10 := h10) (h11 := h11) (g1 := g1) (g2 := g2) (g3 := g3)
    (hi := fun m hm => by
      obtain ⟨n, D, h2, h3, h4⟩ := hi8 m hm
      refine ⟨n, D, map_kept h2 (Kept.of_below (S := fun _ => False) ((b9.trans (b10.mono b9.size)).trans (b11.mono (b9.trans (b10.mono b9.size)).size))) (fun x => x), h3, ?_⟩
      have := b26.size; have := bw2.size; have := hb.size; omega)
    (hAw := by have := bw11.size; omega) (hcw := by have := bw11.size; omega) (hX1 := hX1) (hX2 := by omega) (hX3 := fun p hp => by have := hge p hp; omega) (hX4 := hX4) (hown := map_kept hown kf (fun x => x)) (hinj := hinj) (hmem := hmem) (hndv := hndv) (hLv := hLv) (hN := hN) (hl2 := hl2) (hMb := hMb) (hv := hv.kept kf (fun _ _ x => x))
    (hh := fun p hp => by obtain ⟨cs, t, hc⟩ := hh p hp; exact ⟨cs, t, by rw [kf.block _ (heap_lt hc) (fun x => x)]; exact hc⟩)
    (hMm := fun m hm => by obtain ⟨n, D', h2, h3, h4⟩ := hi8 m hm; have := hown.lt; have := bw6.size; omega) (hX5 := hX5) (hX6 := hX6) (hMA := hMA) (hMc := hMc)


end Go.Proofs.Ybulkdyta
